import PyProof.Rows.All
import Wide.All
import OpenK.AllK
import Wide.FinOn
import PySem.Challenge.RW_sh0047_01
open PySem PySem.W PyProof.Rows
set_option Elab.async false
set_option maxRecDepth 100000
set_option maxHeartbeats 0
set_option linter.unusedSimpArgs false
set_option linter.unusedVariables false
set_option genInjectivity false
set_option genSizeOf false
set_option linter.all false
section
namespace Mine
section
local macro_rules | `(tactic| o_head $_) => `(tactic| assumption)
theorem kf (h : PySem.Challenge.rw_sh0047_01.row.Holds) : PySem.Challenge.rw_sh0047_01.row.Holds := by k_head
end
end Mine
end
section
open PySem PySem.W PySem.Calls PySem.Spec PyProof.Rows
namespace Mine
-- combos
theorem ex_1 {A:Type} {W:A→Prop} {Z:Prop} (h:∃ a, W a) (k:∀ a, W a→Z) : Z := h.elim k
theorem ex_2 {A B:Type} {W:A→B→Prop} {Z:Prop} (h:∃ a b, W a b) (k:∀ a b, W a b→Z) : Z := h.elim fun a h => ex_1 h (k a)
theorem ex_3 {A B C:Type} {W:A→B→C→Prop} {Z:Prop} (h:∃ a b c, W a b c) (k:∀ a b c, W a b c→Z) : Z := h.elim fun a h => ex_2 h (k a)
theorem ex_4 {A B C D:Type} {W:A→B→C→D→Prop} {Z:Prop} (h:∃ a b c d, W a b c d) (k:∀ a b c d, W a b c d→Z) : Z := h.elim fun a h => ex_3 h (k a)
theorem ex_5 {A B C D E:Type} {W:A→B→C→D→E→Prop} {Z:Prop} (h:∃ a b c d e, W a b c d e) (k:∀ a b c d e, W a b c d e→Z) : Z := h.elim fun a h => ex_4 h (k a)
theorem ex_6 {A B C D E F:Type} {W:A→B→C→D→E→F→Prop} {Z:Prop} (h:∃ a b c d e f, W a b c d e f) (k:∀ a b c d e f, W a b c d e f→Z) : Z := h.elim fun a h => ex_5 h (k a)
theorem ex_7 {A B C D E F G:Type} {W:A→B→C→D→E→F→G→Prop} {Z:Prop} (h:∃ a b c d e f g, W a b c d e f g) (k:∀ a b c d e f g, W a b c d e f g→Z) : Z := h.elim fun a h => ex_6 h (k a)
theorem ex_8 {A B C D E F G I:Type} {W:A→B→C→D→E→F→G→I→Prop} {Z:Prop} (h:∃ a b c d e f g i, W a b c d e f g i) (k:∀ a b c d e f g i, W a b c d e f g i→Z) : Z := h.elim fun a h => ex_7 h (k a)
theorem ex_9 {A B C D E F G I J:Type} {W:A→B→C→D→E→F→G→I→J→Prop} {Z:Prop} (h:∃ a b c d e f g i j, W a b c d e f g i j) (k:∀ a b c d e f g i j, W a b c d e f g i j→Z) : Z := h.elim fun a h => ex_8 h (k a)
theorem ex_10 {A B C D E F G I J L:Type} {W:A→B→C→D→E→F→G→I→J→L→Prop} {Z:Prop} (h:∃ a b c d e f g i j l, W a b c d e f g i j l) (k:∀ a b c d e f g i j l, W a b c d e f g i j l→Z) : Z := h.elim fun a h => ex_9 h (k a)
theorem ex_11 {A B C D E F G I J L M:Type} {W:A→B→C→D→E→F→G→I→J→L→M→Prop} {Z:Prop} (h:∃ a b c d e f g i j l m, W a b c d e f g i j l m) (k:∀ a b c d e f g i j l m, W a b c d e f g i j l m→Z) : Z := h.elim fun a h => ex_10 h (k a)
theorem ex_12 {A B C D E F G I J L M N:Type} {W:A→B→C→D→E→F→G→I→J→L→M→N→Prop} {Z:Prop} (h:∃ a b c d e f g i j l m n, W a b c d e f g i j l m n) (k:∀ a b c d e f g i j l m n, W a b c d e f g i j l m n→Z) : Z := h.elim fun a h => ex_11 h (k a)
theorem exI_1 {A:Type} {W:A→Prop} (a:A) (h:W a) : ∃ a, W a := ⟨a,h⟩
theorem exI_2 {A B:Type} {W:A→B→Prop} (a:A) (b:B) (h:W a b) : ∃ a b, W a b := ⟨a, exI_1 (W:=W a) b h⟩
theorem exI_3 {A B C:Type} {W:A→B→C→Prop} (a:A) (b:B) (c:C) (h:W a b c) : ∃ a b c, W a b c := ⟨a, exI_2 (W:=W a) b c h⟩
theorem exI_4 {A B C D:Type} {W:A→B→C→D→Prop} (a:A) (b:B) (c:C) (d:D) (h:W a b c d) : ∃ a b c d, W a b c d := ⟨a, exI_3 (W:=W a) b c d h⟩
theorem exI_5 {A B C D E:Type} {W:A→B→C→D→E→Prop} (a:A) (b:B) (c:C) (d:D) (e:E) (h:W a b c d e) : ∃ a b c d e, W a b c d e := ⟨a, exI_4 (W:=W a) b c d e h⟩
theorem exI_6 {A B C D E F:Type} {W:A→B→C→D→E→F→Prop} (a:A) (b:B) (c:C) (d:D) (e:E) (f:F) (h:W a b c d e f) : ∃ a b c d e f, W a b c d e f := ⟨a, exI_5 (W:=W a) b c d e f h⟩
theorem exI_7 {A B C D E F G:Type} {W:A→B→C→D→E→F→G→Prop} (a:A) (b:B) (c:C) (d:D) (e:E) (f:F) (g:G) (h:W a b c d e f g) : ∃ a b c d e f g, W a b c d e f g := ⟨a, exI_6 (W:=W a) b c d e f g h⟩
theorem exI_8 {A B C D E F G I:Type} {W:A→B→C→D→E→F→G→I→Prop} (a:A) (b:B) (c:C) (d:D) (e:E) (f:F) (g:G) (i:I) (h:W a b c d e f g i) : ∃ a b c d e f g i, W a b c d e f g i := ⟨a, exI_7 (W:=W a) b c d e f g i h⟩
theorem exI_9 {A B C D E F G I J:Type} {W:A→B→C→D→E→F→G→I→J→Prop} (a:A) (b:B) (c:C) (d:D) (e:E) (f:F) (g:G) (i:I) (j:J) (h:W a b c d e f g i j) : ∃ a b c d e f g i j, W a b c d e f g i j := ⟨a, exI_8 (W:=W a) b c d e f g i j h⟩
theorem exI_10 {A B C D E F G I J L:Type} {W:A→B→C→D→E→F→G→I→J→L→Prop} (a:A) (b:B) (c:C) (d:D) (e:E) (f:F) (g:G) (i:I) (j:J) (l:L) (h:W a b c d e f g i j l) : ∃ a b c d e f g i j l, W a b c d e f g i j l := ⟨a, exI_9 (W:=W a) b c d e f g i j l h⟩
theorem exI_11 {A B C D E F G I J L M:Type} {W:A→B→C→D→E→F→G→I→J→L→M→Prop} (a:A) (b:B) (c:C) (d:D) (e:E) (f:F) (g:G) (i:I) (j:J) (l:L) (m:M) (h:W a b c d e f g i j l m) : ∃ a b c d e f g i j l m, W a b c d e f g i j l m := ⟨a, exI_10 (W:=W a) b c d e f g i j l m h⟩
theorem exI_12 {A B C D E F G I J L M N:Type} {W:A→B→C→D→E→F→G→I→J→L→M→N→Prop} (a:A) (b:B) (c:C) (d:D) (e:E) (f:F) (g:G) (i:I) (j:J) (l:L) (m:M) (n:N) (h:W a b c d e f g i j l m n) : ∃ a b c d e f g i j l m n, W a b c d e f g i j l m n := ⟨a, exI_11 (W:=W a) b c d e f g i j l m n h⟩
theorem exI_13 {A B C D E F G I J L M N O:Type} {W:A→B→C→D→E→F→G→I→J→L→M→N→O→Prop} (a:A) (b:B) (c:C) (d:D) (e:E) (f:F) (g:G) (i:I) (j:J) (l:L) (m:M) (n:N) (o:O) (h:W a b c d e f g i j l m n o) : ∃ a b c d e f g i j l m n o, W a b c d e f g i j l m n o := ⟨a, exI_12 (W:=W a) b c d e f g i j l m n o h⟩
theorem exI_14 {A B C D E F G I J L M N O P:Type} {W:A→B→C→D→E→F→G→I→J→L→M→N→O→P→Prop} (a:A) (b:B) (c:C) (d:D) (e:E) (f:F) (g:G) (i:I) (j:J) (l:L) (m:M) (n:N) (o:O) (p:P) (h:W a b c d e f g i j l m n o p) : ∃ a b c d e f g i j l m n o p, W a b c d e f g i j l m n o p := ⟨a, exI_13 (W:=W a) b c d e f g i j l m n o p h⟩
theorem exI_15 {A B C D E F G I J L M N O P Q:Type} {W:A→B→C→D→E→F→G→I→J→L→M→N→O→P→Q→Prop} (a:A) (b:B) (c:C) (d:D) (e:E) (f:F) (g:G) (i:I) (j:J) (l:L) (m:M) (n:N) (o:O) (p:P) (q:Q) (h:W a b c d e f g i j l m n o p q) : ∃ a b c d e f g i j l m n o p q, W a b c d e f g i j l m n o p q := ⟨a, exI_14 (W:=W a) b c d e f g i j l m n o p q h⟩
theorem exI_16 {A B C D E F G I J L M N O P Q R:Type} {W:A→B→C→D→E→F→G→I→J→L→M→N→O→P→Q→R→Prop} (a:A) (b:B) (c:C) (d:D) (e:E) (f:F) (g:G) (i:I) (j:J) (l:L) (m:M) (n:N) (o:O) (p:P) (q:Q) (r:R) (h:W a b c d e f g i j l m n o p q r) : ∃ a b c d e f g i j l m n o p q r, W a b c d e f g i j l m n o p q r := ⟨a, exI_15 (W:=W a) b c d e f g i j l m n o p q r h⟩
theorem exI_17 {A B C D E F G I J L M N O P Q R S:Type} {W:A→B→C→D→E→F→G→I→J→L→M→N→O→P→Q→R→S→Prop} (a:A) (b:B) (c:C) (d:D) (e:E) (f:F) (g:G) (i:I) (j:J) (l:L) (m:M) (n:N) (o:O) (p:P) (q:Q) (r:R) (s:S) (h:W a b c d e f g i j l m n o p q r s) : ∃ a b c d e f g i j l m n o p q r s, W a b c d e f g i j l m n o p q r s := ⟨a, exI_16 (W:=W a) b c d e f g i j l m n o p q r s h⟩
theorem exI_18 {A B C D E F G I J L M N O P Q R S T:Type} {W:A→B→C→D→E→F→G→I→J→L→M→N→O→P→Q→R→S→T→Prop} (a:A) (b:B) (c:C) (d:D) (e:E) (f:F) (g:G) (i:I) (j:J) (l:L) (m:M) (n:N) (o:O) (p:P) (q:Q) (r:R) (s:S) (t:T) (h:W a b c d e f g i j l m n o p q r s t) : ∃ a b c d e f g i j l m n o p q r s t, W a b c d e f g i j l m n o p q r s t := ⟨a, exI_17 (W:=W a) b c d e f g i j l m n o p q r s t h⟩
theorem and_2 {A B Z:Prop} (h:A∧B) (k:A→B→Z) : Z := k h.1 h.2
theorem and_3 {A B C Z:Prop} (h:A∧B∧C) (k:A→B→C→Z) : Z := and_2 h.2 (k h.1)
theorem and_4 {A B C D Z:Prop} (h:A∧B∧C∧D) (k:A→B→C→D→Z) : Z := and_3 h.2 (k h.1)
theorem and_5 {A B C D E Z:Prop} (h:A∧B∧C∧D∧E) (k:A→B→C→D→E→Z) : Z := and_4 h.2 (k h.1)
theorem and_6 {A B C D E F Z:Prop} (h:A∧B∧C∧D∧E∧F) (k:A→B→C→D→E→F→Z) : Z := and_5 h.2 (k h.1)
theorem and_7 {A B C D E F G Z:Prop} (h:A∧B∧C∧D∧E∧F∧G) (k:A→B→C→D→E→F→G→Z) : Z := and_6 h.2 (k h.1)
theorem and_8 {A B C D E F G I Z:Prop} (h:A∧B∧C∧D∧E∧F∧G∧I) (k:A→B→C→D→E→F→G→I→Z) : Z := and_7 h.2 (k h.1)
theorem and_9 {A B C D E F G I J Z:Prop} (h:A∧B∧C∧D∧E∧F∧G∧I∧J) (k:A→B→C→D→E→F→G→I→J→Z) : Z := and_8 h.2 (k h.1)
theorem and_10 {A B C D E F G I J L Z:Prop} (h:A∧B∧C∧D∧E∧F∧G∧I∧J∧L) (k:A→B→C→D→E→F→G→I→J→L→Z) : Z := and_9 h.2 (k h.1)
theorem and_11 {A B C D E F G I J L M Z:Prop} (h:A∧B∧C∧D∧E∧F∧G∧I∧J∧L∧M) (k:A→B→C→D→E→F→G→I→J→L→M→Z) : Z := and_10 h.2 (k h.1)
theorem and_12 {A B C D E F G I J L M N Z:Prop} (h:A∧B∧C∧D∧E∧F∧G∧I∧J∧L∧M∧N) (k:A→B→C→D→E→F→G→I→J→L→M→N→Z) : Z := and_11 h.2 (k h.1)
theorem and_13 {A B C D E F G I J L M N O Z:Prop} (h:A∧B∧C∧D∧E∧F∧G∧I∧J∧L∧M∧N∧O) (k:A→B→C→D→E→F→G→I→J→L→M→N→O→Z) : Z := and_12 h.2 (k h.1)
-- combos end
theorem ne9_w : Nonempty World := ⟨{ draws := fun _ _ => 0, params := { strHash := fun _ => 0, shareClass := fun _ => 0, mergeTok := id, idOf := fun _ => 0, idOfShared := fun _ _ => 0, followText := fun _ => false, idOfImm := fun _ => 0 } }⟩
theorem ne9_s : Nonempty Shared := ⟨{}⟩
theorem ne9_a : Nonempty Around := ⟨{}⟩
theorem ne9_p {A B : Type} (a : Nonempty A) (b : Nonempty B) : Nonempty (A × B) := ⟨(Classical.choice a, Classical.choice b)⟩
theorem ex9 {T : Type} (n9 : Nonempty T) (P : T → Prop) : ∃ v, P v → ∀ t, P t := by
  by_cases h : ∃ t, ¬ P t
  · obtain ⟨t, ht⟩ := h
    exact ⟨t, fun q => absurd q ht⟩
  · exact ⟨Classical.ofNonempty, fun _ t => Classical.byContradiction fun n => h ⟨t, n⟩⟩
noncomputable def ch9 {T : Type} (n9 : Nonempty T) (P : T → Prop) : T := Classical.choose (ex9 n9 P)
theorem sp9 {T : Type} (n9 : Nonempty T) (P : T → Prop) : P (ch9 n9 P) → ∀ t, P t := Classical.choose_spec (ex9 n9 P)
theorem pow_bd {u : Int} {j : Nat} (hu : 3 < u ∧ u < 12) (hj : j < 6) : 0 ≤ u ^ j ∧ u ^ j ≤ 161051 := by
  have key : ∀ (j : Fin 6) (v : Fin 12), (0 : Int) ≤ ((v.val : Nat) : Int) ^ j.val ∧ ((v.val : Nat) : Int) ^ j.val ≤ 161051 := by decide +kernel
  obtain ⟨n, rfl⟩ : ∃ n : Nat, u = (n : Int) := ⟨u.toNat, by omega⟩
  exact key ⟨j, hj⟩ ⟨n, by omega⟩
theorem cases6 {j : Nat} (h : j < 6) : j = 0 ∨ j = 1 ∨ j = 2 ∨ j = 3 ∨ j = 4 ∨ j = 5 := by omega
def Srt : List Nat → Prop
  | a :: b :: l => a < b ∧ Srt (b :: l)
  | _ => True
def SrtC (l : List Nat) : Prop := Srt l
theorem srt_c {a b : Nat} {l : List Nat} (h : a < b) (t : Srt (b :: l)) : Srt (a :: b :: l) := ⟨h, t⟩
theorem srt_1 {a : Nat} : Srt [a] := trivial
theorem srt_hd : ∀ {l : List Nat} {a b : Nat}, Srt (a :: l) → b ∈ l → a < b
  | c :: _, _, _, h, .head _ => h.1
  | c :: _, _, _, h, .tail _ m => Nat.lt_trans h.1 (srt_hd h.2 m)
theorem srt_tl : ∀ {l : List Nat} {a : Nat}, Srt (a :: l) → Srt l
  | [], _, _ => trivial
  | _ :: _, _, h => h.2
theorem srt_get : ∀ {l : List Nat} {i j a b : Nat}, Srt l → l[i]? = some a → l[j]? = some b → i < j → a < b
  | x :: l, 0, j + 1, a, b, h, ha, hb, _ => by
    cases ha
    exact srt_hd h (List.mem_of_getElem? (by simpa using hb))
  | x :: l, i + 1, j + 1, a, b, h, ha, hb, hij => srt_get (srt_tl h) (by simpa using ha) (by simpa using hb) (by omega)
theorem srt_ne {l : List Nat} {i j a b : Nat} (h : Srt l) (ha : l[i]? = some a) (hb : l[j]? = some b) (hij : (i == j) = false) : @Ne Nat a b := by
  have hn : i ≠ j := by simpa using hij
  rcases Nat.lt_or_gt_of_ne hn with q | q
  · exact Nat.ne_of_lt (srt_get h ha hb q)
  · exact Nat.ne_of_gt (srt_get h hb ha q)
theorem srt_neC {l : List Nat} {i j a b : Nat} (h : SrtC l) (ha : l[i]? = some a) (hb : l[j]? = some b) (hij : (i == j) = false) : @Ne Nat a b := srt_ne h ha hb hij
theorem ix (i : Nat) {l : List Nat} {a : Nat} (h : l[i]? = some a) : l[i]? = some a := h
theorem ix_0 {α : Type} {a : α} {l : List α} : (a :: l)[0]? = some a := rfl
theorem ix_1 {α : Type} {x0 a : α} {l : List α} : (x0 :: a :: l)[1]? = some a := rfl
theorem ix_2 {α : Type} {x0 x1 a : α} {l : List α} : (x0 :: x1 :: a :: l)[2]? = some a := rfl
theorem ix_3 {α : Type} {x0 x1 x2 a : α} {l : List α} : (x0 :: x1 :: x2 :: a :: l)[3]? = some a := rfl
theorem ix_4 {α : Type} {x0 x1 x2 x3 a : α} {l : List α} : (x0 :: x1 :: x2 :: x3 :: a :: l)[4]? = some a := rfl
theorem ix_5 {α : Type} {x0 x1 x2 x3 x4 a : α} {l : List α} : (x0 :: x1 :: x2 :: x3 :: x4 :: a :: l)[5]? = some a := rfl
theorem ix_6 {α : Type} {x0 x1 x2 x3 x4 x5 a : α} {l : List α} : (x0 :: x1 :: x2 :: x3 :: x4 :: x5 :: a :: l)[6]? = some a := rfl
theorem ix_7 {α : Type} {x0 x1 x2 x3 x4 x5 x6 a : α} {l : List α} : (x0 :: x1 :: x2 :: x3 :: x4 :: x5 :: x6 :: a :: l)[7]? = some a := rfl
theorem ix_d {α : Type} {x0 x1 x2 x3 x4 x5 x6 x7 : α} {l : List α} {a : α} {i : Nat} (h : l[i]? = some a) : (x0 :: x1 :: x2 :: x3 :: x4 :: x5 :: x6 :: x7 :: l)[i + 8]? = some a := h
theorem srt_lt {l : List Nat} {i j a b : Nat} (h : Srt l) (ha : l[i]? = some a) (hb : l[j]? = some b) (hij : Nat.ble (i + 1) j = true) : a < b := srt_get h ha hb (Nat.le_of_ble_eq_true hij)
theorem NoL9.noLia9 : True := trivial
theorem srt10 {a b c d e f g h i j : Nat} (H : a < b ∧ b < c ∧ c < d ∧ d < e ∧ e < f ∧ f < g ∧ g < h ∧ h < i ∧ i < j) : Srt [a, b, c, d, e, f, g, h, i, j] := ⟨H.1, H.2.1, H.2.2.1, H.2.2.2.1, H.2.2.2.2.1, H.2.2.2.2.2.1, H.2.2.2.2.2.2.1, H.2.2.2.2.2.2.2.1, H.2.2.2.2.2.2.2.2, trivial⟩
theorem alt_lt {d : Addr} {a : Addr} {o : Obj} : ∀ {l : List (Addr × Obj)}, AllLt d l → (a, o) ∈ l → @LT.lt Nat _ a d
  | _ :: _, h, .head _ => h.1
  | _ :: _, h, .tail _ m => alt_lt h.2 m
theorem alt_ne {d : Addr} {a : Addr} {o : Obj} {l : List (Addr × Obj)} (h : AllLt d l) (m : (a, o) ∈ l) : @Ne Nat a d := Nat.ne_of_lt (alt_lt h m)
theorem alt_ne' {d : Addr} {a : Addr} {o : Obj} {l : List (Addr × Obj)} (h : AllLt d l) (m : (a, o) ∈ l) : @Ne Nat d a := Nat.ne_of_gt (alt_lt h m)
theorem ne_s1 {n : Nat} : n ≠ n + 1 := Nat.ne_of_lt (Nat.lt_succ_self _)
theorem ne_s2 {n : Nat} : n ≠ n + 1 + 1 := by omega
theorem ne_s3 {n : Nat} : n ≠ n + 1 + 1 + 1 := by omega
theorem ne_p1 {n : Nat} : n + 1 ≠ n := by omega
theorem ne_p2 {n : Nat} : n + 1 + 1 ≠ n := by omega
theorem ne_p3 {n : Nat} : n + 1 + 1 + 1 ≠ n := by omega
theorem opqG {P : Prop} (k : ∀ G : Prop, (P → G) → G) : P := k P id
theorem one_eq {P : Addr} {a b : Obj} {r : List (Addr × Obj)} (e : (P, a) :: r = [(P, b)]) : a = b ∧ r = [] := by
  cases e; exact ⟨rfl, rfl⟩
theorem two_eq {P P2 : Addr} {a b a2 b2 : Obj} (e : [(P, a), (P2, a2)] = [(P, b), (P2, b2)]) : a = b ∧ a2 = b2 := by
  cases e; exact ⟨rfl, rfl⟩
theorem paired_inv {α β : Type} {R : α → β → Prop} {l : List α} {b : β} {bs : List β} (h : PySem.Paired R l (b :: bs)) : ∃ x r, l = x :: r ∧ R x b ∧ PySem.Paired R r bs := by
  cases h with
  | cons a r => exact ⟨_, _, rfl, a, r⟩
theorem paired_nil9 {α β : Type} {R : α → β → Prop} {l : List α} (h : PySem.Paired R l ([] : List β)) : l = [] := by
  cases h; rfl
theorem paired3 {α β : Type} {R : α → β → Prop} {l : List α} {a b c : β} (h : PySem.Paired R l [a, b, c]) : ∃ x y z, l = [x, y, z] ∧ R x a ∧ R y b ∧ R z c := by
  refine ex_2 (paired_inv h) fun x r q => and_3 q fun e hx h1 => ?_
  refine ex_2 (paired_inv h1) fun y r2 q => and_3 q fun e2 hy h2 => ?_
  refine ex_2 (paired_inv h2) fun z r3 q => and_3 q fun e3 hz h3 => ?_
  exact ⟨x, y, z, by rw [e, e2, e3, paired_nil9 h3], hx, hy, hz⟩
theorem opq {α : Sort _} (a : α) : ∃ x, x = a := ⟨a, rfl⟩
theorem opq3 {α β γ : Sort _} (K : α → β → γ → Prop) : ∃ J : α → β → γ → Prop, (∀ a b c, K a b c → J a b c) ∧ (∀ a b c, J a b c → K a b c) := ⟨K, fun _ _ _ h => h, fun _ _ _ h => h⟩
theorem opq_V {M : Model} {A : Around} {t : Sem Value} {Q : Value → Shared → Prop} {E : Value → Shared → Prop} {s : Shared} (h : ∀ QT : Value → Shared → Prop, (∀ y s', Q y s' → QT y s') → wpAny M A t QT E s) : wpAny M A t Q E s := h Q (fun _ _ h => h)
theorem opq_turn {M : Model} {A : Around} {t : Sem Unit} {body : List Stmt} {env : Env} {Q : Flow → Shared → Prop} {E : Value → Shared → Prop} {s : Shared} (h : ∀ QT : Flow → Shared → Prop, (∀ f s', Q f s' → QT f s') → wpAny M A t (fun _ s₂ => wpAny M A (execs body env) QT E s₂) E s) : wpAny M A t (fun _ s₂ => wpAny M A (execs body env) Q E s₂) E s := h Q (fun _ _ h => h)
theorem leave_v {QV : Value → Shared → Prop} {P : Value → Shared → Prop} {y : Value} {s : Shared} (h : ∀ y s', P y s' → QV y s') (p : P y s) : QV y s := h y s p
theorem execs_cons_o {M : Model} {A : Around} {st : Stmt} {rest : List Stmt} {env : Env} {Q : Flow → Shared → Prop} {E : Value → Shared → Prop} {s : Shared}
    (h : ∀ QF : Flow → Shared → Prop, (∀ s', wpAny M A (execs rest env) Q E s' → QF .next s') → (∀ f s', f ≠ .next → Q f s' → QF f s') → wpAny M A (exec st env) QF E s) : wpAny M A (execs (st :: rest) env) Q E s :=
  wpAny_execs_cons (h _ (fun _ h => h) (fun f s' hf h => by cases f <;> first | exact h | exact absurd rfl hf))
theorem leave_n {QF : Flow → Shared → Prop} {P : Shared → Prop} {s : Shared} (h : ∀ s', P s' → QF .next s') (p : P s) : QF .next s := h s p
theorem leave_f {QF : Flow → Shared → Prop} {P : Flow → Shared → Prop} {f : Flow} {s : Shared} (h : ∀ f s', f ≠ .next → P f s' → QF f s') (hf : f ≠ .next) (p : P f s) : QF f s := h f s hf p
theorem leave_q {QF : Flow → Shared → Prop} {P : Flow → Shared → Prop} {f : Flow} {s : Shared} (h : ∀ f s', P f s' → QF f s') (p : P f s) : QF f s := h f s p
theorem opq_QE {M : Model} {A : Around} {body : List Stmt} {env : Env} {Q : Flow → Shared → Prop} {E : Value → Shared → Prop} {s : Shared} (hE : PassesOwn M A env E)
    (h : ∀ (QF : Flow → Shared → Prop) (EF : Value → Shared → Prop), PassesOwn M A env EF → (∀ f s', Q f s' → QF f s') → (∀ e s', E e s' → EF e s') → wpAny M A (execs body env) QF EF s) : wpAny M A (execs body env) Q E s :=
  h Q E hE (fun _ _ h => h) (fun _ _ h => h)
noncomputable abbrev Led := List (Addr × Obj)
noncomputable abbrev adr (l : Led) : List Addr := l.map (·.1)

theorem wpAny_less {α : Type} {M : Model} {A : Around} {t : Sem α} {Q : α → Shared → Prop} {E : Value → Shared → Prop} {s : Shared} {d u : Nat} (h : wpAny M A t Q E s) (hd : d ≤ A.depth) (hu : u ≤ A.units) : wpAny M { A with depth := d, units := u } t Q E s :=
  fun Γ p hΓ => h Γ p ⟨hΓ.1, Nat.le_trans hΓ.2.1 hd, hΓ.2.2.1, hΓ.2.2.2.1, Nat.le_trans hΓ.2.2.2.2 hu⟩

theorem codeAny_less {M : Model} {A : Around} {c : Code} {R : Result → Shared → Prop} {s : Shared} {d u : Nat} (h : codeAny M A c R s) (hd : d ≤ A.depth) (hu : u ≤ A.units) : codeAny M { A with depth := d, units := u } c R s :=
  fun Γ p hc hΓ => h Γ p hc ⟨hΓ.1, Nat.le_trans hΓ.2.1 hd, hΓ.2.2.1, hΓ.2.2.2.1, Nat.le_trans hΓ.2.2.2.2 hu⟩

def Con (prog : Program) (w : World) (loose : List Str) (mean : ExcName → Option Value) (mg mb : Str → Option Value) (dp un : Nat) (f : Addr) (vs : List Value) (ro mu : Led) (R : Value → Led → Led → Prop) : Prop :=
  ∀ (gd : Option (List Code)) (cn : Str) (cs : Scope) (a : Addr) (ccd : Value) (cl : List (Str × Addr)) (outer : List Env) (A₀ : Around) (base h₀ : Heap) (L : Addr) (m : Str → Option Value) (s : Shared) (Q E : Value → Shared → Prop),
    Below A₀ base outer h₀ → Fr h₀ L s.heap m → (kf.heap_1 w.params).In h₀ → News h₀ L s.heap (ro ++ mu) → Top topProg loose mean mg mb h₀ → cs.kind = .function →
    (∀ r mu' nw h' tk', Fr h₀ L h' m → News h₀ L h' (nw ++ (ro ++ mu')) → (∀ b o, s.heap.get? b = some o → b ∉ adr mu → h'.get? b = some o) → (∀ p ∈ nw, s.heap.get? p.1 = none) → R r mu' nw → Q r { s with heap := h', toks := tk' }) →
    codeAny (model prog w) (ktrTop dp un gd cn cs L a ccd cl outer) (.call (.ref f) ⟨vs, []⟩) (fun r s' => match r with | .ok (.ret v) => Q v s' | .ok _ => False | .error e => E e s') s

def AllNe (a : Addr) : Led → Prop
  | [] => True
  | p :: r => @Ne Nat p.1 a ∧ AllNe a r
theorem mem_ix {α : Type} {l : List α} {a : α} (i : Nat) (h : l[i]? = some a) : a ∈ l := List.mem_of_getElem? h
theorem mem_dr {α : Type} {l : List α} {a : α} (k : Nat) (h : a ∈ l.drop k) : a ∈ l := List.mem_of_mem_drop h
theorem allNe_to9 {a : Addr} {l : Led} (h : AllNe a l) : ∀ p ∈ l, p.1 ≠ a := by
  induction l with
  | nil => exact fun p hp => absurd hp List.not_mem_nil
  | cons q r ih =>
    intro p hp
    rcases List.mem_cons.mp hp with e | hp
    · rw [e]; exact h.1
    · exact ih h.2 p hp
theorem allNe_c {a b : Addr} {o : Obj} {r : Led} (h : @Ne Nat b a) (t : AllNe a r) : AllNe a ((b, o) :: r) := ⟨h, t⟩
theorem updF_h {d : Addr} {o : Obj} {r : Led} (h : AllNe d r) : UpdF d o ((d, o) :: r) (fun o' => (d, o') :: r) := .head (allNe_to9 h)
theorem updF_t {d b : Addr} {o o2 : Obj} {r : Led} {g : Obj → Led} (h : @Ne Nat b d) (u : UpdF d o r g) : UpdF d o ((b, o2) :: r) (fun o' => (b, o2) :: g o') := .tail h u
theorem updF_m {d : Addr} {o : Obj} {r : Led} {g : Obj → Led} (h : UpdF d o r g) (_ : (d, o) ∈ r) : UpdF d o r g := h
theorem allNe_of {a : Addr} : ∀ {l : Led}, (∀ p ∈ l, p.1 ≠ a) → AllNe a l
  | [], _ => trivial
  | p :: _, h => ⟨h p (.head _), allNe_of fun q hq => h q (.tail _ hq)⟩
def NwNe (big : Led) : Led → Prop
  | [] => True
  | p :: r => AllNe p.1 big ∧ NwNe big r
theorem nwNe_of {big : Led} : ∀ {l : Led}, (∀ p ∈ l, ∀ q ∈ big, q.1 ≠ p.1) → NwNe big l
  | [], _ => trivial
  | p :: _, h => ⟨allNe_of (h p (.head _)), nwNe_of fun q hq => h q (.tail _ hq)⟩

section
variable {prog : Program} {w : World} {loose : List Str} {mean : ExcName → Option Value} {mg mb : Str → Option Value} {D U dp un f : Nat} {vs : List Value} {ro mu big rest : Led} {R : Value → Led → Led → Prop}
  {gd : Option (List Code)} {cn : Str} {cs : Scope} {a : Addr} {ccd : Value} {cl : List (Str × Addr)} {outer : List Env} {A₀ : Around} {base h₀ : Heap} {L : Addr} {m : Str → Option Value} {s : Shared} {Q E : Value → Shared → Prop}
theorem Con.imp {R' : Value → Led → Led → Prop} (C : Con prog w loose mean mg mb D U f vs ro mu R) (h : ∀ r mu' nw, R r mu' nw → R' r mu' nw) : Con prog w loose mean mg mb D U f vs ro mu R' :=
  fun gd cn cs a ccd cl outer A₀ base h₀ L m s Q E B F X N T hk ret => C gd cn cs a ccd cl outer A₀ base h₀ L m s Q E B F X N T hk fun r mu' nw h' tk' F' N' k fr hR => ret r mu' nw h' tk' F' N' k fr (h _ _ _ hR)

theorem con_use (C : Con prog w loose mean mg mb D U f vs ro mu R) (hdp : dp ≤ D) (hu : un ≤ U) (B : Below A₀ base outer h₀) (F : Fr h₀ L s.heap m) (X : (kf.heap_1 w.params).In h₀) (N : News h₀ L s.heap big) (T : Top topProg loose mean mg mb h₀) (hk : cs.kind = .function)
    (hro : ∀ p ∈ ro, p ∈ big) (hmu : ∀ p ∈ mu, p ∈ big) (hrest : ∀ p ∈ rest, p ∈ big) (hoff : ∀ p ∈ rest, ∀ q ∈ mu, p.1 ≠ q.1)
    (ret : ∀ r mu' nw h' tk', Fr h₀ L h' m → News h₀ L h' (nw ++ (mu' ++ rest)) → R r mu' nw → NwNe big nw → Q r { s with heap := h', toks := tk' }) :
    codeAny (model prog w) (ktrTop dp un gd cn cs L a ccd cl outer) (.call (.ref f) ⟨vs, []⟩) (fun r s' => match r with | .ok (.ret v) => Q v s' | .ok _ => False | .error e => E e s') s := by
  have N1 : News h₀ L s.heap (ro ++ mu) := fun p hp => N p ((List.mem_append.mp hp).elim (hro p) (hmu p))
  refine codeAny_less (A := ktrTop D U gd cn cs L a ccd cl outer) (C gd cn cs a ccd cl outer A₀ base h₀ L m s Q E B F X N1 T hk fun r mu' nw h' tk' F' N' k fr hR => ?_) hdp hu
  refine ret r mu' nw h' tk' F' (fun p hp => ?_) hR (nwNe_of fun p hp q hq e => ?_)
  · rcases List.mem_append.mp hp with hp | hp
    · exact N' p (List.mem_append.mpr (.inl hp))
    · rcases List.mem_append.mp hp with hp | hp
      · exact N' p (List.mem_append.mpr (.inr (List.mem_append.mpr (.inr hp))))
      · have n := N p (hrest p hp)
        refine ⟨k _ _ n.1 fun hm => ?_, n.2⟩
        obtain ⟨q, hq, e⟩ := List.mem_map.mp hm
        exact hoff p hp q hq e.symm
  · have h1 := fr p hp
    rw [← e, (N q hq).1] at h1
    cases h1

theorem enter_my {K : Frag} {p : Program} {env : Env} {A : Around} {news : Led} {R : Result → Shared → Prop} {name qual : Str} {params : Arguments} {body : List Stmt} {scope : Scope} {dV kV doc pm cdv ct oc : Value} {an od : Option Addr} {osl : Array (Option Value)} {f : Addr} {args : Args} {binds : List (Str × Value)}
    (B : Below A₀ base outer h₀) (F : Fr h₀ L s.heap m) (X₀ : K.In h₀) (N : News h₀ L s.heap news) (T : Top p loose mean mg mb h₀) (hA : A.frames = some (env :: outer)) (hf : env.frame = some L) (hke : env.scope.kind = .function)
    (ho : K.lookup f = some ⟨oc, od, .func (fnOf name qual params body scope dV kV doc pm an cdv ct), osl⟩) (hcd : codeIn K cdv qual = true) (hroom : A.depth < recursionLimit)
    (hbind : BindsTo s (fnOf name qual params body scope dV kV doc pm an cdv ct) args binds) (hloc : ∀ y ∈ binds, scope.names.lookup y.1 = some .local)
    (h : ∀ g L' h₁, Fr h₀ L g m → Fr g L' h₁ (fun y => binds.reverse.lookup y) → News g L' h₁ news → Below A base (env :: outer) g → K.In g → Top p loose mean mg mb g →
      (∀ b o, s.heap.get? b = some o → b ∉ adr news → g.get? b = some o) → (∀ q ∈ news, q.1 < L') →
      wpAny (model prog w) (A.deeper (envOf qual scope L' f cdv)) (execs body (envOf qual scope L' f cdv))
        (fun fl s' => LeaveK h₀ L m g R (match fl with | .ret v => v | _ => .none) s')
        (fun e s' => wpAny (model prog w) (A.deeper (envOf qual scope L' f cdv)) (leaving (envOf qual scope L' f cdv) e) (fun _ s'' => R (.error e) s'') (fun e' s'' => R (.error e') s'') s')
        { s with heap := h₁, toks := s.toks + binds.length })
    (hco : scope.isCoroutine = false) (hgen : scope.isGenerator = false) (hk : scope.kind = .function)
    (hcell : ∀ x ∈ scope.names, x.2 ≠ .cell) : codeAny (model prog w) A (.call (.ref f) args) R s := by
  have ground := groundX (R := R) B F N hA hf hke
  refine codeAny_call_def (fd := fnOf name qual params body scope dV kV doc pm an cdv ct) (binds := binds) hroom (X₀.keeps F.keep _ _ ho) rfl (T.nolimit.keeps F.keep) (codeRec_of (X₀.keeps F.keep) hcd) rfl hbind hcell hloc (fun h₁ ns kp => ?_) hco hgen hk
  have F1 : Fr (hideAll s.heap (adr news)) s.heap.objs.size h₁ (fun y => binds.reverse.lookup y) := ⟨ns, fun b o e => kp b o (of_hideAll _ e), Nat.le_of_eq (hideAll_size _ _)⟩
  have N1 : News (hideAll s.heap (adr news)) s.heap.objs.size h₁ news := fun q hq => ⟨kp _ _ (N q hq).1, Nat.ne_of_lt (Heap.lt_size (N q hq).1), hideAll_none _ (List.mem_map_of_mem hq)⟩
  exact wpAny_mono (h _ _ h₁ ground.1 F1 N1 ground.2.1 (X₀.keeps ground.2.2.1) (T.keeps ground.2.2.1) (fun b o e nb => hideAll_get _ e nb) (fun q hq => Heap.lt_size (N q hq).1)) (fun fl s' lv => ground.2.2.2 _ _ lv) fun _ _ e => e

theorem enter_cells {K : Frag} {p : Program} {env : Env} {A : Around} {news : Led} {R : Result → Shared → Prop} {name qual : Str} {params : Arguments} {body : List Stmt} {scope : Scope} {dV kV doc pm cdv ct oc : Value} {an od : Option Addr} {osl : Array (Option Value)} {f : Addr} {args : Args} {binds : List (Str × Value)}
    (B : Below A₀ base outer h₀) (F : Fr h₀ L s.heap m) (X₀ : K.In h₀) (N : News h₀ L s.heap news) (T : Top p loose mean mg mb h₀) (hA : A.frames = some (env :: outer)) (hf : env.frame = some L) (hke : env.scope.kind = .function)
    (ho : K.lookup f = some ⟨oc, od, .func (fnOf name qual params body scope dV kV doc pm an cdv ct), osl⟩) (hcd : codeIn K cdv qual = true) (hroom : A.depth < recursionLimit)
    (hbind : BindsTo s (fnOf name qual params body scope dV kV doc pm an cdv ct) args binds) (hkind : (binds.all fun y => scope.names.lookup y.1 == some .local || scope.names.lookup y.1 == some .cell) = true)
    (hnd : ((cellsFrom 0 scope.names []).map (·.1)).Nodup)
    (h : ∀ g L' h₁ tk cells, Fr h₀ L g m → Fr g L' h₁ (bindL (envOfC qual scope L' f cdv).kindOf binds fun _ => none) → News g L' h₁ (cells ++ news) →
      CellsAre (bindC (envOfC qual scope L' f cdv).kindOf binds fun _ => none) (cellsFrom (L' + 1) scope.names []) cells → Below A base (env :: outer) g → K.In g → Top p loose mean mg mb g →
      (∀ b o, s.heap.get? b = some o → b ∉ adr news → g.get? b = some o) → (∀ q ∈ news, q.1 < L') →
      wpAny (model prog w) (A.deeper (envOfC qual scope L' f cdv)) (execs body (envOfC qual scope L' f cdv))
        (fun fl s' => LeaveK h₀ L m g R (match fl with | .ret v => v | _ => .none) s')
        (fun e s' => wpAny (model prog w) (A.deeper (envOfC qual scope L' f cdv)) (leaving (envOfC qual scope L' f cdv) e) (fun _ s'' => R (.error e) s'') (fun e' s'' => R (.error e') s'') s')
        { s with heap := h₁, toks := tk })
    (hco : scope.isCoroutine = false) (hgen : scope.isGenerator = false) (hk : scope.kind = .function) : codeAny (model prog w) A (.call (.ref f) args) R s := by
  have ground := groundX (R := R) B F N hA hf hke
  refine codeAny_call_function hroom (X₀.keeps F.keep _ _ ho) rfl hco hgen rfl (codeRec_of (X₀.keeps F.keep) hcd) (hbind _ _ _ _ ?_)
  refine wpAny_newFunctionEnv_cells hk (kindsX hkind _) fun e1 e2 s1 x => ?_
  subst e2
  refine ⟨(T.nolimit.keeps F.keep).keeps x.toInCall.keep, codeAny_func ?_⟩
  obtain ⟨h₁, tk, rfl, _⟩ := x.done
  have kp := x.toInCall.keep
  have sep : (cellsFrom 0 scope.names []).map (·.1) = (cellsFrom (s.heap.objs.size + 1) scope.names []).map (·.1) := cellsFrom_names scope.names 0 (s.heap.objs.size + 1) [] [] rfl
  obtain ⟨cells, NC, Y⟩ := Cl.news (h₀ := s.heap) (Nat.le_refl _) fun n c hm => ⟨x.cell n c (lookup_of_mem_nodup (sep ▸ hnd) hm), x.above n c hm⟩
  have F1 : Fr (hideAll s.heap (adr news)) s.heap.objs.size h₁ (bindL (envOfC qual scope s.heap.objs.size f cdv).kindOf binds fun _ => none) := ⟨x.toInCall.ns, fun b o e => kp b o (of_hideAll _ e), Nat.le_of_eq (hideAll_size _ _)⟩
  have N1 : News (hideAll s.heap (adr news)) s.heap.objs.size h₁ (cells ++ news) := fun q hq => by
    rcases List.mem_append.mp hq with hq | hq
    · refine ⟨(NC q hq).1, (NC q hq).2.1, ?_⟩
      cases e : (hideAll s.heap (adr news)).get? q.1 with
      | none => rfl
      | some o => exact absurd ((of_hideAll _ e).symm.trans (NC q hq).2.2) (by simp)
    · exact ⟨kp _ _ (N q hq).1, Nat.ne_of_lt (Heap.lt_size (N q hq).1), hideAll_none _ (List.mem_map_of_mem hq)⟩
  exact wpAny_mono (h _ _ h₁ tk cells ground.1 F1 N1 Y ground.2.1 (X₀.keeps ground.2.2.1) (T.keeps ground.2.2.1) (fun b o e nb => hideAll_get _ e nb) (fun q hq => Heap.lt_size (N q hq).1)) (fun fl s' lv => ground.2.2.2 _ _ lv) fun _ _ e => e

theorem leave_my {g : Heap} {L' : Addr} {m' : Str → Option Value} {v : Value} {s' : Shared} {fin mu' nw : Led}
    (hret : ∀ r mu' nw h' tk', Fr h₀ L h' m → News h₀ L h' (nw ++ (ro ++ mu')) → (∀ b o, s.heap.get? b = some o → b ∉ adr mu → h'.get? b = some o) → (∀ p ∈ nw, s.heap.get? p.1 = none) → R r mu' nw → Q r { s with heap := h', toks := tk' })
    (N : News h₀ L s.heap (ro ++ mu))
    (kG : ∀ b o, s.heap.get? b = some o → b ∉ adr (ro ++ mu) → g.get? b = some o) (F' : Fr g L' s'.heap m') (N' : News g L' s'.heap fin) (hs : s' = { s with heap := s'.heap, toks := s'.toks })
    (hR : R v mu' nw) (h1 : ∀ p ∈ ro, p ∈ fin) (h2 : ∀ p ∈ mu', p ∈ fin) (h3 : ∀ p ∈ nw, p ∈ fin) (h4 : ∀ p ∈ nw, ∀ q ∈ ro ++ mu, q.1 ≠ p.1) :
    LeaveK h₀ L m g (fun r s' => match r with | .ok (.ret v) => Q v s' | .ok _ => False | .error e => E e s') v s' := by
  have hsub : ∀ p ∈ nw ++ (ro ++ mu'), p ∈ fin := fun p hp => (List.mem_append.mp hp).elim (h3 p) fun hp => (List.mem_append.mp hp).elim (h1 p) (h2 p)
  refine leaveK_ F' (fun p hp => N' p (hsub p hp)) fun F2 N2 => ?_
  have k2 : ∀ b o, s.heap.get? b = some o → b ∉ adr mu → s'.heap.get? b = some o := fun b o e nb => by
    by_cases hb : b ∈ adr ro
    · obtain ⟨q, hq, rfl⟩ := List.mem_map.mp hb
      have e1 := (N q (List.mem_append.mpr (.inl hq))).1
      rw [e] at e1
      cases e1
      exact (N' q (h1 q hq)).1
    · exact F'.keep b o (kG b o e fun hm => by
        simp only [adr, List.map_append] at hm
        exact (List.mem_append.mp hm).elim hb nb)
  have fr : ∀ p ∈ nw, s.heap.get? p.1 = none := fun p hp => by
    cases e : s.heap.get? p.1 with
    | none => rfl
    | some o =>
      have e1 := kG _ _ e fun hm => by
        obtain ⟨q, hq, e2⟩ := List.mem_map.mp hm
        exact h4 p hp q hq e2
      rw [(N' p (h3 p hp)).2.2] at e1
      cases e1
  have fin := hret v mu' nw s'.heap s'.toks F2 N2 k2 fr hR
  rw [← hs] at fin
  exact fin

def MyEnd (R : Value → Led → Led → Prop) (v : Value) (fin ro mu : Led) : Prop := ∃ mu' nw, R v mu' nw ∧ (∀ p ∈ ro, p ∈ fin) ∧ (∀ p ∈ mu', p ∈ fin) ∧ (∀ p ∈ nw, p ∈ fin) ∧ ∀ p ∈ nw, ∀ q ∈ ro ++ mu, q.1 ≠ p.1
theorem leave_end {g : Heap} {L' : Addr} {m' : Str → Option Value} {v : Value} {s' : Shared} {fin : Led}
    (hret : ∀ r mu' nw h' tk', Fr h₀ L h' m → News h₀ L h' (nw ++ (ro ++ mu')) → (∀ b o, s.heap.get? b = some o → b ∉ adr mu → h'.get? b = some o) → (∀ p ∈ nw, s.heap.get? p.1 = none) → R r mu' nw → Q r { s with heap := h', toks := tk' })
    (N : News h₀ L s.heap (ro ++ mu))
    (kG : ∀ b o, s.heap.get? b = some o → b ∉ adr (ro ++ mu) → g.get? b = some o) (F' : Fr g L' s'.heap m') (N' : News g L' s'.heap fin) (hs : s' = { s with heap := s'.heap, toks := s'.toks })
    (h : MyEnd R v fin ro mu) :
    LeaveK h₀ L m g (fun r s' => match r with | .ok (.ret v) => Q v s' | .ok _ => False | .error e => E e s') v s' := by
  obtain ⟨mu', nw, hR, h1, h2, h3, h4⟩ := h
  exact leave_my hret N kG F' N' hs hR h1 h2 h3 h4

theorem con_use0 (C : Con prog w loose mean mg mb D U f vs ro [] R) (hdp : dp ≤ D) (hu : un ≤ U) (B : Below A₀ base outer h₀) (F : Fr h₀ L s.heap m) (X : (kf.heap_1 w.params).In h₀) (N : News h₀ L s.heap big) (T : Top topProg loose mean mg mb h₀) (hk : cs.kind = .function)
    (hro : ∀ p ∈ ro, p ∈ big)
    (ret : ∀ r mu' nw h' tk', Fr h₀ L h' m → News h₀ L h' (nw ++ big) → R r mu' nw → NwNe big nw → Q r { s with heap := h', toks := tk' }) :
    codeAny (model prog w) (ktrTop dp un gd cn cs L a ccd cl outer) (.call (.ref f) ⟨vs, []⟩) (fun r s' => match r with | .ok (.ret v) => Q v s' | .ok _ => False | .error e => E e s') s :=
  con_use (rest := big) C hdp hu B F X N T hk hro (fun _ h => nomatch h) (fun _ h => h) (fun _ _ _ h => nomatch h) fun r mu' nw h' tk' F' N' hR hn => ret r mu' nw h' tk' F' (fun p hp => N' p ((List.mem_append.mp hp).elim (fun h => List.mem_append.mpr (.inl h)) fun h => List.mem_append.mpr (.inr (List.mem_append.mpr (.inr h))))) hR hn
theorem con_use1 {P : Addr} {o : Obj} {g : Obj → Led} (C : Con prog w loose mean mg mb D U f vs ro [(P, o)] R) (hdp : dp ≤ D) (hu : un ≤ U) (B : Below A₀ base outer h₀) (F : Fr h₀ L s.heap m) (X : (kf.heap_1 w.params).In h₀) (N : News h₀ L s.heap big) (T : Top topProg loose mean mg mb h₀) (hk : cs.kind = .function)
    (hU : UpdF P o big g) (hro : ∀ p ∈ ro, p ∈ big)
    (ret : ∀ r o' more nw h' tk', Fr h₀ L h' m → News h₀ L h' (nw ++ (more ++ g o')) → R r ((P, o') :: more) nw → NwNe big nw → Q r { s with heap := h', toks := tk' })
    (hP : ∀ r mu' nw, R r mu' nw → ∃ o' more, mu' = (P, o') :: more) :
    codeAny (model prog w) (ktrTop dp un gd cn cs L a ccd cl outer) (.call (.ref f) ⟨vs, []⟩) (fun r s' => match r with | .ok (.ret v) => Q v s' | .ok _ => False | .error e => E e s') s := by
  obtain ⟨pre, post, rfl, hg, h1, h2⟩ := hU.split
  refine con_use (rest := pre ++ post) C hdp hu B F X N T hk hro (fun p hp => ?_) (fun p hp => ?_) (fun p hp q hq => ?_) fun r mu' nw h' tk' F' N' hR hn => ?_
  · rw [List.mem_singleton.mp hp]; exact List.mem_append.mpr (.inr (.head _))
  · exact (List.mem_append.mp hp).elim (fun h => List.mem_append.mpr (.inl h)) fun h => List.mem_append.mpr (.inr (.tail _ h))
  · rw [List.mem_singleton.mp hq]; exact (List.mem_append.mp hp).elim (h1 p) (h2 p)
  · obtain ⟨o', more, rfl⟩ := hP _ _ _ hR
    refine ret r o' more nw h' tk' F' (fun p hp => N' p ?_) hR hn
    rw [hg] at hp
    simp only [List.mem_append, List.mem_cons] at hp ⊢
    rcases hp with h | h | h | h | h
    · exact .inl h
    · exact .inr (.inl (.inr h))
    · exact .inr (.inr (.inl h))
    · exact .inr (.inl (.inl h))
    · exact .inr (.inr (.inr h))
end
end Mine
end
section
open PySem PySem.W PySem.Calls PySem.Spec PyProof.Rows
namespace Mine
theorem fn_read : typeLookup (.type "function") (Str.ofString "read") = pure none := by rw [typeLookup_type, builtinLookup_eq_fast]; kernel_rfl
noncomputable abbrev fnObj (d : Option Addr) (fd : FuncData) (sl : Array (Option Value)) : Obj := ⟨.type "function", d, .func fd, sl⟩
theorem fn_store : StoreFacts "function" [.type "function", .type "object"] "object.__setattr__" "object" where
  mro := by kernel_rfl
  slot := .of (owner := "object") (n := "__setattr__") (by rw [typeLookup_type, builtinLookup_eq_fast]; kernel_rfl) (by decide +kernel) (by decide +kernel) (by decide +kernel)
    (by first | exact .inl (by decide +kernel) | exact .inr (by decide +kernel)) (by rw [isSubtype_type]; kernel_rfl)
  entry := PySem.F.store_object.entry
  kind := by decide +kernel
  split := by decide +kernel
  hasOwner := by decide +kernel
  args := PySem.F.store_object.args
  passes := fun self => by kernel_rfl

section
variable {prog : Program} {w : World} {A : Around} {E : Value → Shared → Prop} {s : Shared} {h₀ : Heap} {L f : Addr} {m : Str → Option Value} {news : Led} {fd : FuncData} {sl : Array (Option Value)} {v : Value} {Q : Unit → Shared → Prop}

theorem fn_setRead (F : Fr h₀ L s.heap m) (N : News h₀ L s.heap ((f, fnObj none fd sl) :: news)) (hne : ∀ p ∈ news, p.1 ≠ f)
    (h : ∀ d t h' tk, Fr h₀ L h' m → News h₀ L h' ((d, dictOf [⟨PyData.keyHash w.params "read", .str (Str.ofString "read") t, v⟩] 1) :: (f, fnObj (some d) fd sl) :: news) → (∀ p ∈ (f, fnObj none fd sl) :: news, p.1 < d) → Q () { s with heap := h', toks := tk }) :
    wpAny (model prog w) A (setAttr (.ref f) (Str.ofString "read") v) Q E s := by
  have ho := (N _ (.head _)).1
  have hT : Looks (model prog w) s.heap (typeOf (.ref f)) (.type "function") := (Looks.ld ho).andThen .now
  refine wpAny_bind (wpAny_mkText (wpAny_bind (wpAny_bind (wpAny_bind (hT _ _ _ _ (fun _ _ e => e) ?_)))))
  rw [fn_store.slot.lookup]
  refine wpAny_pure (wpAny_holding ?_)
  rw [fn_store.slot.bind]
  refine wpAny_bind (wpAny_pure (wpAny_bind (wpAny_call ?_)))
  have sub : Looks (model prog w) s.heap (isInstance (.ref f) (.type "object")) true := hT.andThen (Looks.of_pure (by rw [isSubtype_type]; kernel_rfl))
  refine codeAny_call_builtin fn_store.slot.plain fn_store.entry (@check_slot (model prog w) _ _ _ "object.__setattr__" "object" "__setattr__" (.ref f) [.str (Str.ofString "read") s.toks, v] [] _ fn_store.kind fn_store.split sub (fn_store.args (.ref f) (.str (Str.ofString "read") s.toks) v) ?_)
  show wpAny _ _ (Builtin.«object.__setattr__» ⟨[.ref f, .str (Str.ofString "read") s.toks, v], []⟩) _ _ _
  rw [osa_eq, refuse_eq]
  refine wpAny_bind (wpAny_bind (hT _ _ _ _ (fun _ _ e => e) ?_))
  rw [fn_store.mro]
  refine wpAny_bind (wpAny_pure ?_)
  rw [fn_store.passes]
  refine wpAny_pure (wpAny_bind (hT _ _ _ _ (fun _ _ e => e) (wpAny_bind ?_)))
  rw [fn_read]
  refine wpAny_pure (wpAny_bind (wpAny_pure ?_))
  show wpAny _ _ (PySem.Builtin.ObjectAttr.storeInOwnDict (.ref f) (.type "function") (.str (Str.ofString "read") s.toks) (Str.ofString "read") v false) _ _ _
  unfold PySem.Builtin.ObjectAttr.storeInOwnDict
  refine wpAny_bind (wpAny_pure ?_)
  show wpAny _ _ (instanceDict f true >>= _) _ _ _
  unfold instanceDict
  refine wpAny_bind (wpAny_bind (wpAny_loadPart ho ?_))
  have hd0 := N.push F (dictOf [] 0)
  have hsz : ∀ p ∈ (f, fnObj none fd sl) :: news, p.1 < s.heap.objs.size := fun p hp => Heap.lt_size (N p hp).1
  refine wpAny_bind (wpAny_alloc ?_)
  have F1 : Fr h₀ L (s.heap.push (dictOf [] 0)) m := F.push _
  have ho1 := (hd0 _ (.tail _ (.head _))).1
  obtain ⟨F2, N2⟩ := news_upd (pre := [(s.heap.objs.size, dictOf [] 0)]) (post := news) (f := fun o => { o with dict := some s.heap.objs.size }) F1 hd0 (fun p hp => by rw [List.mem_singleton.mp hp]; exact Nat.ne_of_gt (hsz _ (.head _))) hne rfl rfl
  refine wpAny_bind (wpAny_update ho1 ?_)
  refine wpAny_of_eq (show dictMade (.type "function") f s.heap.objs.size = pure (some s.heap.objs.size) by kernel_rfl) ?_
  show wpAny _ _ (PySem.Builtin.ObjectAttr.storeInDict s.heap.objs.size (.str (Str.ofString "read") s.toks) (Str.ofString "read") v) _ _ _
  unfold PySem.Builtin.ObjectAttr.storeInDict
  refine wpAny_bind (wpAny_pure (wpAny_bind ?_))
  have D := (N2 _ (.head _)).1
  obtain ⟨F3, N3⟩ := news_upd (pre := []) (f := Obj.putName (Str.ofString "read") (PyData.keyHash w.params "read") (.str (Str.ofString "read") (s.toks + 1)) v) F2 N2 (fun _ h => nomatch h) (fun p hp => by
    rcases List.mem_cons.mp hp with rfl | hp
    · exact Nat.ne_of_lt (hsz (f, fnObj none fd sl) (.head _))
    · exact Nat.ne_of_lt (hsz _ (.tail _ hp))) (putName_dict _ _ _ _ _ _) rfl
  have D' := (N3 _ (.head _)).1
  unfold nsSet
  refine wpAny_bind (wpAny_bind (wpAny_askSetting (wpAny_pure (wpAny_bind (wpAny_mkText (wpAny_bind (wpAny_loadPart D ?_)))))))
  dsimp only
  rw [aRefKeyMayBeTheName_at, show ((!(([] : List DictEntry).toArray.any fun x => x.key.isStr (Str.ofString "read"))) && (([] : List DictEntry).toArray.any fun x => x.refKey)) = false from by simp]
  refine wpAny_updatePart D ?_
  refine wpAny_bind (wpAny_lookBehind D' (pastItsLine_dict (by rw [sizeLine_eq]; show 1 ≤ _; omega)) ?_)
  exact wpAny_pure (wpAny_pure (wpAny_pure (h _ _ _ _ F3 N3 hsz)))
end
theorem fn_ga2 : typeLookup (.type "function") (Str.ofString "__getattribute__") = pure (some (.builtin "object.__getattribute__")) := by rw [typeLookup_type, builtinLookup_eq_fast]; kernel_rfl
theorem fn_ga3 : typeLookup (.type "function") (Str.ofString "__getattr__") = pure none := by rw [typeLookup_type, builtinLookup_eq_fast]; kernel_rfl

theorem fn_ega : entryFor table "object.__getattribute__" = some Builtin.«object.__getattribute__» := PySem.F.entry_object_getattribute
theorem fn_slot : Slot "function" "__getattribute__" "object.__getattribute__" := .of (owner := "object") (n := "__getattribute__") fn_ga2 (by decide +kernel) (by decide +kernel) (by decide +kernel)
    (by first | exact .inl (by decide +kernel) | exact .inr (by decide +kernel)) (by rw [isSubtype_type]; kernel_rfl)
theorem fn_kga : builtinKind "object.__getattribute__" = some .slot := by decide +kernel
theorem fn_sga : splitId "object.__getattribute__" = some ("object", "__getattribute__") := by decide +kernel
theorem fn_aga (a b : Value) : argsOk "object.__getattribute__" ⟨[a, b], []⟩ := by unfold argsOk; kernel_rfl

section
variable {prog : Program} {w : World} {A : Around} {E : Value → Shared → Prop} {s : Shared} {S d : Addr} {fd : FuncData} {sl : Array (Option Value)} {v : Value}
theorem fn_getRead {Q : Value → Shared → Prop} {hh : Int} {t : Tok} {k : Nat} {b : Bool} (hS : s.heap.get? S = some (fnObj (some d) fd sl)) (hd : s.heap.get? d = some (dictOf [⟨hh, .str (Str.ofString "read") t, v⟩] k)) (hv : handedIn v = true) (h : ∀ tk, Q v { s with toks := tk }) :
    wpAny (model prog w) A (getAttr (.ref S) (Str.ofString "read") b) Q E s := by
  have hT : Looks (model prog w) s.heap (typeOf (.ref S)) (.type "function") := (Looks.ld hS).andThen .now
  have sub : Looks (model prog w) s.heap (isInstance (.ref S) (.type "object")) true := hT.andThen (Looks.of_pure (by rw [isSubtype_type]; kernel_rfl))
  unfold getAttr
  refine wpAny_bind (wpAny_mkText ?_)
  unfold getAttrBy
  refine wpAny_holding (wpAny_bind (hT _ _ _ _ (fun _ _ e => e) (wpAny_bind ?_)))
  rw [fn_ga2]
  refine wpAny_pure ?_
  show wpAny _ _ (getAttrByItsOwn (.ref S) (.str (Str.ofString "read") s.toks) (.type "function") (.builtin "object.__getattribute__") true b) _ _ _
  unfold getAttrByItsOwn
  refine wpAny_bind (wpAny_of_eq (show hookBefore (.type "function") = pure none by kernel_rfl) ?_)
  have e1 : callGetattribute (.ref S) (.str (Str.ofString "read") s.toks) (.builtin "object.__getattribute__") b = boundAndCalled (.builtin "object.__getattribute__") (.ref S) (.str (Str.ofString "read") s.toks) := by
    unfold callGetattribute
    cases b <;> rfl
  refine wpAny_bind (wpAny_attempt (wpAny_holding ?_))
  rw [e1]
  unfold boundAndCalled
  rw [fn_slot.bind]
  refine wpAny_bind (wpAny_pure (wpAny_call ?_))
  refine codeAny_call_builtin fn_slot.plain fn_ega (@check_slot (model prog w) _ _ _ "object.__getattribute__" "object" "__getattribute__" (.ref S) [.str (Str.ofString "read") s.toks] [] _ fn_kga fn_sga sub (fn_aga (.ref S) (.str (Str.ofString "read") s.toks)) ?_)
  show wpAny _ _ (Builtin.«object.__getattribute__» ⟨[.ref S, .str (Str.ofString "read") s.toks], []⟩) _ _ _
  unfold Builtin.«object.__getattribute__»
  refine wpAny_bind (wpAny_pure ?_)
  refine wpAny_bind (wpAny_pure ?_)
  refine wpAny_bind (hT _ _ _ _ (fun _ _ e => e) (wpAny_bind ?_))
  unfold PySem.Builtin.ObjectAttr.find
  rw [fn_read]
  refine wpAny_bind (wpAny_pure (wpAny_bind (wpAny_pure (wpAny_bind (wpAny_pure ?_)))))
  show wpAny _ _ (PySem.Builtin.ObjectAttr.ownThenClass (.ref S) (Str.ofString "read") none none) _ _ _
  unfold PySem.Builtin.ObjectAttr.ownThenClass
  refine wpAny_bind (wpAny_bind (wpAny_bind (wpAny_loadPart hS ?_)))
  refine wpAny_bind (wpAny_loadPart hS ?_)
  refine wpAny_pure ?_
  show wpAny _ _ (nsGet d (Str.ofString "read")) _ _ _
  unfold nsGet
  refine wpAny_bind (wpAny_loadPart hd ?_)
  refine wpAny_of_eq (show nsLook (Str.ofString "read") (dictOf [⟨hh, .str (Str.ofString "read") t, v⟩] k) = pure (some v) by kernel_rfl) ?_
  refine wpAny_bind (wpAny_rule (wpAny_pure (wpAny_pure ?_)))
  show wpAny _ _ (handedOut v) _ _ _
  rw [handedOut_of hv]
  exact wpAny_pure (h _)
theorem fn_methRead {pl : Sem Bool} {Q : Value × List Value → Shared → Prop} {hh : Int} {t : Tok} {k : Nat} (hS : s.heap.get? S = some (fnObj (some d) fd sl)) (hd : s.heap.get? d = some (dictOf [⟨hh, .str (Str.ofString "read") t, v⟩] k)) (hv : handedIn v = true) (h : ∀ tk, Q (v, []) { s with toks := tk }) :
    wpAny (model prog w) A (getMethod (.ref S) (Str.ofString "read") pl) Q E s := by
  have hT : Looks (model prog w) s.heap (typeOf (.ref S)) (.type "function") := (Looks.ld hS).andThen .now
  have hcan := PySem.F.canon_object_ga
  unfold getMethod specialOf
  refine wpAny_bind (wpAny_bind (hT _ _ _ _ (fun _ _ e => e) ?_))
  rw [fn_ga2]
  refine wpAny_pure ?_
  dsimp only
  rw [hcan, if_neg (by decide)]
  refine wpAny_bind (wpAny_bind (hT _ _ _ _ (fun _ _ e => e) ?_))
  rw [fn_ga3]
  refine wpAny_pure ?_
  refine wpAny_bind (wpAny_bind (hT _ _ _ _ (fun _ _ e => e) ?_))
  rw [fn_read]
  refine wpAny_pure ?_
  exact wpAny_bind (fn_getRead hS hd hv fun tk => wpAny_pure (h tk))
end
section
variable {prog : Program} {w : World} {loose : List Str} {mean : ExcName → Option Value} {mg mb : Str → Option Value} {outer : List Env} {A₀ : Around} {base h₀ : Heap} {L : Addr} {m : Str → Option Value} {s : Shared}
theorem enter_made {K : Frag} {p : Program} {env : Env} {A : Around} {news : Led} {R : Result → Shared → Prop} {name qual : Str} {params : Arguments} {body : List Stmt} {scope : Scope} {cl : List (Str × Addr)} {doc pm ctv : Value} {c' : Addr} {f : Addr} {args : Args} {binds : List (Str × Value)}
    (B : Below A₀ base outer h₀) (F : Fr h₀ L s.heap m) (X₀ : K.In h₀) (N : News h₀ L s.heap news) (T : Top p loose mean mg mb h₀) (hA : A.frames = some (env :: outer)) (hf : env.frame = some L) (hke : env.scope.kind = .function)
    (ho : (f, fnMade name qual params body scope cl doc pm c' ctv) ∈ news) (hcd : s.heap.CodeRec (.ref c') qual) (hroom : A.depth < recursionLimit)
    (hbind : BindsTo s (fnX name qual params body scope cl .none .none doc pm none (.ref c') ctv) args binds) (hloc : ∀ y ∈ binds, scope.names.lookup y.1 = some .local)
    (h : ∀ g L' h₁, Fr h₀ L g m → Fr g L' h₁ (fun y => binds.reverse.lookup y) → News g L' h₁ news → Below A base (env :: outer) g → K.In g → Top p loose mean mg mb g →
      (∀ b o, s.heap.get? b = some o → b ∉ adr news → g.get? b = some o) → (∀ q ∈ news, q.1 < L') →
      wpAny (model prog w) (A.deeper (envX qual scope L' f (.ref c') cl)) (execs body (envX qual scope L' f (.ref c') cl))
        (fun fl s' => LeaveK h₀ L m g R (match fl with | .ret v => v | _ => .none) s')
        (fun e s' => wpAny (model prog w) (A.deeper (envX qual scope L' f (.ref c') cl)) (leaving (envX qual scope L' f (.ref c') cl) e) (fun _ s'' => R (.error e) s'') (fun e' s'' => R (.error e') s'') s')
        { s with heap := h₁, toks := s.toks + binds.length })
    (hco : scope.isCoroutine = false) (hgen : scope.isGenerator = false) (hk : scope.kind = .function)
    (hcell : ∀ x ∈ scope.names, x.2 ≠ .cell) : codeAny (model prog w) A (.call (.ref f) args) R s := by
  have ground := groundX (R := R) B F N hA hf hke
  refine codeAny_call_def (fd := fnX name qual params body scope cl .none .none doc pm none (.ref c') ctv) (binds := binds) hroom (N _ ho).1 rfl (T.nolimit.keeps F.keep) hcd rfl hbind hcell hloc (fun h₁ ns kp => ?_) hco hgen hk
  have F1 : Fr (hideAll s.heap (adr news)) s.heap.objs.size h₁ (fun y => binds.reverse.lookup y) := ⟨ns, fun b o e => kp b o (of_hideAll _ e), Nat.le_of_eq (hideAll_size _ _)⟩
  have N1 : News (hideAll s.heap (adr news)) s.heap.objs.size h₁ news := fun q hq => ⟨kp _ _ (N q hq).1, Nat.ne_of_lt (Heap.lt_size (N q hq).1), hideAll_none _ (List.mem_map_of_mem hq)⟩
  exact wpAny_mono (h _ _ h₁ ground.1 F1 N1 ground.2.1 (X₀.keeps ground.2.2.1) (T.keeps ground.2.2.1) (fun b o e nb => hideAll_get _ e nb) (fun q hq => Heap.lt_size (N q hq).1)) (fun fl s' lv => ground.2.2.2 _ _ lv) fun _ _ e => e
end
theorem allNe_to {a : Addr} : ∀ {l : Led}, AllNe a l → ∀ p ∈ l, p.1 ≠ a
  | [], _, _, hp => (nomatch hp)
  | q :: r, h, p, hp => by
    rcases List.mem_cons.mp hp with rfl | hp
    · exact h.1
    · exact allNe_to h.2 p hp
theorem nwNe_to {big : Led} : ∀ {l : Led}, NwNe big l → ∀ p ∈ l, ∀ q ∈ big, q.1 ≠ p.1
  | [], _, _, hp => (nomatch hp)
  | q :: r, h, p, hp => by
    rcases List.mem_cons.mp hp with rfl | hp
    · exact allNe_to h.1
    · exact nwNe_to h.2 p hp
theorem end_cut {R : Value → Led → Led → Prop} {v : Value} {fin ro mu : Led} (k j : Nat) (hR : R v (fin.drop j) (fin.take k)) (h1 : ∀ p ∈ ro, p ∈ fin) (h4 : NwNe (ro ++ mu) (fin.take k)) : MyEnd R v fin ro mu :=
  ⟨fin.drop j, fin.take k, hR, h1, fun _ hp => List.mem_of_mem_drop hp, fun _ hp => List.mem_of_mem_take hp, nwNe_to h4⟩
end Mine
end
section
open PySem PySem.W PySem.Calls PySem.Spec PyProof.Rows
namespace Mine
theorem fill : PySem.Challenge.rw_sh0047_01 = PySem.Challenge.rw_sh0047_01 ∧ kf.heap_1 = kf.heap_1 := by
  k_fill
  exact ⟨rfl, rfl⟩
variable (prog : Program) (w : World) (loose : List Str) (mean : ExcName → Option Value) (mg mb : Str → Option Value)
section
variable {prog : Program} {w : World} {A : Around} {E : Value → Shared → Prop} {s : Shared} {h₀ : Heap} {L : Addr} {m : Str → Option Value} {news : Led}
theorem fn_setReadU {f : Addr} {fd : FuncData} {sl : Array (Option Value)} {v : Value} {Q : Unit → Shared → Prop} {g : Obj → Led} (F : Fr h₀ L s.heap m) (N : News h₀ L s.heap news) (U : UpdF f (fnObj none fd sl) news g)
    (h : ∀ d t h' tk, Fr h₀ L h' m → News h₀ L h' ((d, dictOf [⟨PyData.keyHash w.params "read", .str (Str.ofString "read") t, v⟩] 1) :: g (fnObj (some d) fd sl)) → (∀ p ∈ news, p.1 < d) → Q () { s with heap := h', toks := tk }) :
    wpAny (model prog w) A (setAttr (.ref f) (Str.ofString "read") v) Q E s := by
  obtain ⟨pre, post, rfl, hg, h1, h2⟩ := U.split
  have N1 : News h₀ L s.heap ((f, fnObj none fd sl) :: (pre ++ post)) := fun p hp => N p (by
    rcases List.mem_cons.mp hp with rfl | hp
    · exact List.mem_append.mpr (.inr (.head _))
    · exact (List.mem_append.mp hp).elim (fun h => List.mem_append.mpr (.inl h)) fun h => List.mem_append.mpr (.inr (.tail _ h)))
  refine fn_setRead F N1 (fun p hp => (List.mem_append.mp hp).elim (h1 p) (h2 p)) fun d t h' tk F' N' l => h d t h' tk F' (fun p hp => N' p ?_) fun p hp => l p ?_
  · rw [hg] at hp
    simp only [List.mem_cons, List.mem_append] at hp ⊢
    rcases hp with h | h | h | h
    · exact .inl h
    · exact .inr (.inr (.inl h))
    · exact .inr (.inl h)
    · exact .inr (.inr (.inr h))
  · rcases List.mem_append.mp hp with hp | hp
    · exact .tail _ (List.mem_append.mpr (.inl hp))
    · rcases List.mem_cons.mp hp with rfl | hp
      · exact .head _
      · exact .tail _ (List.mem_append.mpr (.inr hp))
theorem fn_methReadN {S d : Addr} {fd : FuncData} {sl : Array (Option Value)} {v : Value} {pl : Sem Bool} {Q : Value × List Value → Shared → Prop} {hh : Int} {t : Tok} {k : Nat} (N : News h₀ L s.heap news) (hS : (S, fnObj (some d) fd sl) ∈ news) (hd : (d, dictOf [⟨hh, .str (Str.ofString "read") t, v⟩] k) ∈ news) (hv : handedIn v = true) (h : ∀ tk, Q (v, []) { s with toks := tk }) :
    wpAny (model prog w) A (getMethod (.ref S) (Str.ofString "read") pl) Q E s := fn_methRead (N _ hS).1 (N _ hd).1 hv h
end
noncomputable abbrev readDict (h : Int) (t : Tok) (F : Addr) : Obj := dictOf [⟨h, .str (Str.ofString "read") t, .ref F⟩] 1
noncomputable abbrev machDict (h1 h2 h3 h4 : Int) (t1 t2 t3 t4 : Tok) (ln : Int) (tl : Tok) (S : Addr) (tw : Tok) (P : Addr) : Obj :=
  dictOf [⟨h1, .str (Str.ofString "lineno") t1, .int ln tl⟩, ⟨h2, .str (Str.ofString "instream") t2, .ref S⟩, ⟨h3, .str (Str.ofString "whitespace") t3, .str (Str.ofString "\n\t\x0d ") tw⟩, ⟨h4, .str (Str.ofString "pushback") t4, .ref P⟩] 4
noncomputable def cutAt (x : Str) (i : Nat) : Str := Txt.slice x (some (i : Int)) (some ((i : Int) + 1))
def Chain10 (a b c d e f g h i j : Nat) : Prop := a < b ∧ b < c ∧ c < d ∧ d < e ∧ e < f ∧ f < g ∧ g < h ∧ h < i ∧ i < j
def ReadCon (prog : Program) (w : World) (loose : List Str) (mean : ExcName → Option Value) (mg mb : Str → Option Value) (x : Str) (F A : Addr) (ro : Led) : Prop :=
  ∀ (i : Nat) (t tk : Tok) (n : Nat), i ≤ x.length → Con prog w loose mean mg mb 360 300 F [.int 1 t] ro [(A, W.listOf #[.int i tk] n)] (fun r mu' nw => nw = [] ∧ ∃ t' tk' n', r = .str (cutAt x i) t' ∧ mu' = [(A, W.listOf #[(.int ((i : Int) + ((cutAt x i).length : Int)) tk')] n')])
end Mine
end
namespace Mine
set_option compiler.extract_closed false
local macro_rules | `(tactic| walk_at $s:str) => `(tactic| k_extra $s)
local macro_rules | `(tactic| omega) => `(tactic| k_extra "omega")
local macro_rules | `(tactic| k_all) => `(tactic| k_extra "k_all")
local macro_rules | `(tactic| k_mem) => `(tactic| k_extra "k_mem")
local macro_rules | `(tactic| k_room) => `(tactic| k_extra "k_room")
local macro_rules | `(tactic| k_updF) => `(tactic| k_extra "k_updF")
local macro_rules | `(tactic| k_ne) => `(tactic| k_extra "k_ne")
local macro_rules | `(tactic| k_lt $h) => `(tactic| replace $h := allLt_of $h)
local macro_rules | `(tactic| passes_own) => `(tactic| assumption)
local macro_rules | `(tactic| walk_at "TN") => `(tactic| (intros; (try rename News _ _ _ _ => N'; dsimp only at N'); (try k_sweep)))
local macro_rules | `(tactic| walk_at "TM") => `(tactic| (intros; (rename News _ _ _ _ => N'; dsimp only [List.cons_append, List.nil_append] at N'); (try k_sweep)))
local macro_rules | `(tactic| walk_at "TL") => `(tactic| (intros; (try rename (∀ _, _ → _) => l1; k_lt l1); (try k_sweep)))
local macro_rules | `(tactic| walk_at "TA") => `(tactic| (intros; (rename AllNe _ _ => hn'; simp only [AllNe] at hn'); (try rename News _ _ _ _ => N'; dsimp only at N'); (try k_sweep)))
theorem kw9_base : True := by
  (k_with "LeaveK" => (k_dflt (refine' leave_end ?hr ?N ?kG ?F2 ?N2 ?hs ?_; (case hr => assumption); (case N => assumption); (case kG => assumption); (case F2 => k_asm); (case N2 => k_asm); (case hs => rfl)); k_whole))
  (k_with "execs cons" => first | (k_here; k_gentoks) | ((with_reducible refine execs_cons_o ?_); intro QF9 hn9 hf9; try dsimp only))
  (k_with "LEAVE9" => (first | (refine leave_n (by with_reducible assumption) ?_) | (refine leave_f (by with_reducible assumption) (by nofun) ?_) | (refine leave_q (by with_reducible assumption) ?_) | (refine leave_v (by with_reducible assumption) ?_)); (try clear hf9 hn9 QF9); (first | ((with_reducible refine execs_cons_o ?_); intro QF9 hn9 hf9; try dsimp only) | (try dsimp only)))
  (k_with "IX" => first | ((fail_if_success fail_if_success with_reducible first | apply ix_0 | apply ix_1 | apply ix_2 | apply ix_3); first | (fail_if_success fail_if_success with_reducible apply ix_0); exact ix 0 rfl | (fail_if_success fail_if_success with_reducible apply ix_1); exact ix 1 rfl | (fail_if_success fail_if_success with_reducible apply ix_2); exact ix 2 rfl | exact ix 3 rfl) | ((fail_if_success fail_if_success with_reducible first | apply ix_4 | apply ix_5 | apply ix_6 | apply ix_7); first | (fail_if_success fail_if_success with_reducible apply ix_4); exact ix 4 rfl | (fail_if_success fail_if_success with_reducible apply ix_5); exact ix 5 rfl | (fail_if_success fail_if_success with_reducible apply ix_6); exact ix 6 rfl | exact ix 7 rfl) | ((fail_if_success fail_if_success with_reducible apply ix_d); first | ((fail_if_success fail_if_success with_reducible apply ix_d; first | apply ix_0 | apply ix_1 | apply ix_2 | apply ix_3); first | (fail_if_success fail_if_success with_reducible apply ix_d; apply ix_0); exact ix 8 rfl | (fail_if_success fail_if_success with_reducible apply ix_d; apply ix_1); exact ix 9 rfl | (fail_if_success fail_if_success with_reducible apply ix_d; apply ix_2); exact ix 10 rfl | exact ix 11 rfl) | ((fail_if_success fail_if_success with_reducible apply ix_d; first | apply ix_4 | apply ix_5 | apply ix_6 | apply ix_7); first | (fail_if_success fail_if_success with_reducible apply ix_d; apply ix_4); exact ix 12 rfl | (fail_if_success fail_if_success with_reducible apply ix_d; apply ix_5); exact ix 13 rfl | (fail_if_success fail_if_success with_reducible apply ix_d; apply ix_6); exact ix 14 rfl | exact ix 15 rfl) | ((fail_if_success fail_if_success with_reducible apply ix_d; apply ix_d); first | ((fail_if_success fail_if_success with_reducible apply ix_d; apply ix_d; first | apply ix_0 | apply ix_1 | apply ix_2 | apply ix_3); first | (fail_if_success fail_if_success with_reducible apply ix_d; apply ix_d; apply ix_0); exact ix 16 rfl | (fail_if_success fail_if_success with_reducible apply ix_d; apply ix_d; apply ix_1); exact ix 17 rfl | (fail_if_success fail_if_success with_reducible apply ix_d; apply ix_d; apply ix_2); exact ix 18 rfl | exact ix 19 rfl) | ((fail_if_success fail_if_success with_reducible apply ix_d; apply ix_d; first | apply ix_4 | apply ix_5 | apply ix_6 | apply ix_7); first | (fail_if_success fail_if_success with_reducible apply ix_d; apply ix_d; apply ix_4); exact ix 20 rfl | (fail_if_success fail_if_success with_reducible apply ix_d; apply ix_d; apply ix_5); exact ix 21 rfl | (fail_if_success fail_if_success with_reducible apply ix_d; apply ix_d; apply ix_6); exact ix 22 rfl | exact ix 23 rfl) | ((fail_if_success fail_if_success with_reducible apply ix_d; apply ix_d; apply ix_d); first | ((fail_if_success fail_if_success with_reducible apply ix_d; apply ix_d; apply ix_d; first | apply ix_0 | apply ix_1 | apply ix_2 | apply ix_3); first | (fail_if_success fail_if_success with_reducible apply ix_d; apply ix_d; apply ix_d; apply ix_0); exact ix 24 rfl | (fail_if_success fail_if_success with_reducible apply ix_d; apply ix_d; apply ix_d; apply ix_1); exact ix 25 rfl | (fail_if_success fail_if_success with_reducible apply ix_d; apply ix_d; apply ix_d; apply ix_2); exact ix 26 rfl | exact ix 27 rfl) | ((fail_if_success fail_if_success with_reducible apply ix_d; apply ix_d; apply ix_d; first | apply ix_4 | apply ix_5); first | (fail_if_success fail_if_success with_reducible apply ix_d; apply ix_d; apply ix_d; apply ix_4); exact ix 28 rfl | exact ix 29 rfl)))))
  (k_with "CJN" => first | ((with_reducible rename _ ≠ _ ∧ _ => q9); (with_reducible (first | exact q9.1 | exact Ne.symm q9.1 | exact q9.2.1 | exact Ne.symm q9.2.1 | exact q9.2 | exact Ne.symm q9.2 | exact q9.2.2.1 | exact Ne.symm q9.2.2.1 | exact q9.2.2 | exact Ne.symm q9.2.2 | exact q9.2.2.2.1 | exact Ne.symm q9.2.2.2.1 | exact q9.2.2.2 | exact Ne.symm q9.2.2.2 | exact q9.2.2.2.2.1 | exact Ne.symm q9.2.2.2.2.1 | exact q9.2.2.2.2 | exact Ne.symm q9.2.2.2.2 | exact q9.2.2.2.2.2.1 | exact Ne.symm q9.2.2.2.2.2.1 | exact q9.2.2.2.2.2 | exact Ne.symm q9.2.2.2.2.2 | exact q9.2.2.2.2.2.2.1 | exact Ne.symm q9.2.2.2.2.2.2.1 | exact q9.2.2.2.2.2.2 | exact Ne.symm q9.2.2.2.2.2.2 | exact q9.2.2.2.2.2.2.2.1 | exact Ne.symm q9.2.2.2.2.2.2.2.1 | exact q9.2.2.2.2.2.2.2 | exact Ne.symm q9.2.2.2.2.2.2.2 | exact q9.2.2.2.2.2.2.2.2.1 | exact Ne.symm q9.2.2.2.2.2.2.2.2.1 | exact q9.2.2.2.2.2.2.2.2 | exact Ne.symm q9.2.2.2.2.2.2.2.2 | exact q9.2.2.2.2.2.2.2.2.2.1 | exact Ne.symm q9.2.2.2.2.2.2.2.2.2.1 | exact q9.2.2.2.2.2.2.2.2.2 | exact Ne.symm q9.2.2.2.2.2.2.2.2.2 | exact q9.2.2.2.2.2.2.2.2.2.2.1 | exact Ne.symm q9.2.2.2.2.2.2.2.2.2.2.1 | exact q9.2.2.2.2.2.2.2.2.2.2 | exact Ne.symm q9.2.2.2.2.2.2.2.2.2.2 | exact q9.2.2.2.2.2.2.2.2.2.2.2.1 | exact Ne.symm q9.2.2.2.2.2.2.2.2.2.2.2.1 | exact q9.2.2.2.2.2.2.2.2.2.2.2 | exact Ne.symm q9.2.2.2.2.2.2.2.2.2.2.2))) | ((with_reducible rename _ ≠ _ ∧ _ => q9); clear q9; k_extra "CJN"))
  (k_with "CJL" => first | ((with_reducible rename _ < _ ∧ _ => q9); (with_reducible (first | exact q9.1 | exact q9.2.1 | exact q9.2 | exact q9.2.2.1 | exact q9.2.2 | exact q9.2.2.2.1 | exact q9.2.2.2 | exact q9.2.2.2.2.1 | exact q9.2.2.2.2 | exact q9.2.2.2.2.2.1 | exact q9.2.2.2.2.2 | exact q9.2.2.2.2.2.2.1 | exact q9.2.2.2.2.2.2 | exact q9.2.2.2.2.2.2.2.1 | exact q9.2.2.2.2.2.2.2 | exact q9.2.2.2.2.2.2.2.2.1 | exact q9.2.2.2.2.2.2.2.2 | exact q9.2.2.2.2.2.2.2.2.2.1 | exact q9.2.2.2.2.2.2.2.2.2 | exact q9.2.2.2.2.2.2.2.2.2.2.1 | exact q9.2.2.2.2.2.2.2.2.2.2 | exact q9.2.2.2.2.2.2.2.2.2.2.2.1 | exact q9.2.2.2.2.2.2.2.2.2.2.2))) | ((with_reducible rename _ < _ ∧ _ => q9); clear q9; k_extra "CJL"))
  (k_with "LT0" => first | with_reducible assumption | (refine' srt_lt (by with_reducible assumption) ?ha9 ?hb9 ?hij9; (case ha9 => k_extra "IX"); (case hb9 => k_extra "IX"); (case hij9 => exact rfl)) | k_extra "CJL" | (refine' srt_lt (srt10 (by with_reducible assumption)) ?ha9 ?hb9 ?hij9; (case ha9 => k_extra "IX"); (case hb9 => k_extra "IX"); (case hij9 => exact rfl)))
  (k_with "LT2" => first | (refine' Nat.lt_trans ?x9 ?y9; (case y9 => first | with_reducible assumption | k_extra "CJL"); (case x9 => k_extra "LT0")) | (refine' Nat.lt_trans ?x9 ?y9; (case x9 => first | with_reducible assumption | k_extra "CJL"); (case y9 => k_extra "LT0")) | (refine' Nat.lt_trans ?x9 ?y9; (case y9 => (refine' srt_lt (srt10 (by with_reducible assumption)) ?ha9 ?hb9 ?hij9; (case ha9 => k_extra "IX"); (case hb9 => k_extra "IX"); (case hij9 => exact rfl))); (case x9 => first | k_extra "LT0" | (refine' Nat.lt_trans ?x9 ?y9; (case y9 => first | with_reducible assumption | k_extra "CJL"); (case x9 => k_extra "LT0")))))
  (k_with "LT1" => first | k_extra "LT0" | k_extra "LT2")
  (k_with "omega" => first | (with_reducible assumption) | ((with_reducible show @Ne _ _ _); first | (with_reducible first | apply ne_s1 | apply ne_p1 | apply ne_s2 | apply ne_p2 | apply ne_s3 | apply ne_p3) | exact Nat.ne_of_lt (by with_reducible assumption) | exact Nat.ne_of_gt (by with_reducible assumption) | exact Nat.ne_of_beq_eq_false rfl | (refine' srt_ne (by with_reducible assumption) ?ha9 ?hb9 ?hij9; (case ha9 => k_extra "IX"); (case hb9 => k_extra "IX"); (case hij9 => exact rfl)) | (refine' alt_ne ?hA9 ?hM9; (case hA9 => with_reducible assumption); (case hM9 => k_mem)) | (refine' alt_ne' ?hA9 ?hM9; (case hA9 => with_reducible assumption); (case hM9 => k_mem)) | ((fail_if_success (fail_if_success law_clear)); first | k_extra "CJN" | (refine' Nat.ne_of_lt ?hq9; (case hq9 => k_extra "LT0")) | (refine' Nat.ne_of_gt ?hq9; (case hq9 => k_extra "LT0")) | (refine' Nat.ne_of_lt ?hq9; (case hq9 => k_extra "LT2")) | (refine' Nat.ne_of_gt ?hq9; (case hq9 => k_extra "LT2")))) | ((with_reducible show @LT.lt _ _ _ _); first | (with_reducible (refine' alt_lt ?hA9 ?hM9); (case hA9 => with_reducible assumption); (case hM9 => k_mem)) | ((with_reducible show @LT.lt Nat _ _ _); (fail_if_success (fail_if_success law_clear)); k_extra "LT1")) | ((with_reducible show @LE.le Nat _ _ _); (fail_if_success (fail_if_success law_clear)); refine' Nat.le_of_lt ?hq9; (case hq9 => k_extra "LT1")) | ((with_reducible show _ ∧ _); (refine And.intro ?_ ?_ <;> omega)) | ((first | (fail_if_success (have h9 := noLia9)) | (with_reducible show @LE.le Nat _ _ _) | (with_reducible show @LT.lt Nat _ _ _) | (with_reducible show @Eq Nat _ _)); (repeat ((with_reducible rename _ ≠ _ ∧ _ => q9); clear q9)); law_clear; law_purse 20000 => lia) | ((repeat ((with_reducible rename _ ≠ _ ∧ _ => q9); clear q9)); (repeat ((with_reducible rename _ < _ ∧ _ => q9); clear q9)); omega +splitDisjunctions) | ((repeat ((with_reducible rename _ ≠ _ ∧ _ => q9); clear q9)); omega +splitDisjunctions) | omega +splitDisjunctions | ((simp only [AllLt, and_true] at *); omega +splitDisjunctions))
  (k_with "k_mem" => first | ((fail_if_success fail_if_success with_reducible apply mem_ix; first | apply ix_0 | apply ix_1 | apply ix_2 | apply ix_3); first | (fail_if_success fail_if_success with_reducible apply mem_ix; apply ix_0); exact List.Mem.head _ | (fail_if_success fail_if_success with_reducible apply mem_ix; apply ix_1); exact mem_ix 1 rfl | (fail_if_success fail_if_success with_reducible apply mem_ix; apply ix_2); exact mem_ix 2 rfl | exact mem_ix 3 rfl) | ((fail_if_success fail_if_success with_reducible apply mem_ix; first | apply ix_4 | apply ix_5 | apply ix_6 | apply ix_7); first | (fail_if_success fail_if_success with_reducible apply mem_ix; apply ix_4); exact mem_ix 4 rfl | (fail_if_success fail_if_success with_reducible apply mem_ix; apply ix_5); exact mem_ix 5 rfl | (fail_if_success fail_if_success with_reducible apply mem_ix; apply ix_6); exact mem_ix 6 rfl | exact mem_ix 7 rfl) | ((fail_if_success fail_if_success with_reducible apply mem_ix; apply ix_d); first | ((fail_if_success fail_if_success with_reducible apply mem_ix; apply ix_d; first | apply ix_0 | apply ix_1 | apply ix_2 | apply ix_3); first | (fail_if_success fail_if_success with_reducible apply mem_ix; apply ix_d; apply ix_0); exact mem_ix 8 rfl | (fail_if_success fail_if_success with_reducible apply mem_ix; apply ix_d; apply ix_1); exact mem_ix 9 rfl | (fail_if_success fail_if_success with_reducible apply mem_ix; apply ix_d; apply ix_2); exact mem_ix 10 rfl | exact mem_ix 11 rfl) | ((fail_if_success fail_if_success with_reducible apply mem_ix; apply ix_d; first | apply ix_4 | apply ix_5 | apply ix_6 | apply ix_7); first | (fail_if_success fail_if_success with_reducible apply mem_ix; apply ix_d; apply ix_4); exact mem_ix 12 rfl | (fail_if_success fail_if_success with_reducible apply mem_ix; apply ix_d; apply ix_5); exact mem_ix 13 rfl | (fail_if_success fail_if_success with_reducible apply mem_ix; apply ix_d; apply ix_6); exact mem_ix 14 rfl | exact mem_ix 15 rfl) | ((fail_if_success fail_if_success with_reducible apply mem_ix; apply ix_d; apply ix_d); first | ((fail_if_success fail_if_success with_reducible apply mem_ix; apply ix_d; apply ix_d; first | apply ix_0 | apply ix_1 | apply ix_2 | apply ix_3); first | (fail_if_success fail_if_success with_reducible apply mem_ix; apply ix_d; apply ix_d; apply ix_0); exact mem_ix 16 rfl | (fail_if_success fail_if_success with_reducible apply mem_ix; apply ix_d; apply ix_d; apply ix_1); exact mem_ix 17 rfl | (fail_if_success fail_if_success with_reducible apply mem_ix; apply ix_d; apply ix_d; apply ix_2); exact mem_ix 18 rfl | exact mem_ix 19 rfl) | ((fail_if_success fail_if_success with_reducible apply mem_ix; apply ix_d; apply ix_d; first | apply ix_4 | apply ix_5 | apply ix_6 | apply ix_7); first | (fail_if_success fail_if_success with_reducible apply mem_ix; apply ix_d; apply ix_d; apply ix_4); exact mem_ix 20 rfl | (fail_if_success fail_if_success with_reducible apply mem_ix; apply ix_d; apply ix_d; apply ix_5); exact mem_ix 21 rfl | (fail_if_success fail_if_success with_reducible apply mem_ix; apply ix_d; apply ix_d; apply ix_6); exact mem_ix 22 rfl | exact mem_ix 23 rfl) | ((fail_if_success fail_if_success with_reducible apply mem_ix; apply ix_d; apply ix_d; apply ix_d); first | ((fail_if_success fail_if_success with_reducible apply mem_ix; apply ix_d; apply ix_d; apply ix_d; first | apply ix_0 | apply ix_1); first | (fail_if_success fail_if_success with_reducible apply mem_ix; apply ix_d; apply ix_d; apply ix_d; apply ix_0); exact mem_ix 24 rfl | exact mem_ix 25 rfl)))))
  (k_with "k_all" => first | exact List.forall_mem_nil _ | (refine allNe_to9 ?_; k_extra "AN"))
  (k_with "AN" => first | with_reducible assumption | exact True.intro | (refine' allNe_c ?a9 ?b9; (case a9 => (first | omega | (dsimp only; omega))); (case b9 => k_extra "AN")))
  (k_with "k_updF" => first | (refine' updF_h ?a9; (case a9 => k_extra "AN")) | (refine' updF_t ?a9 ?b9; (case a9 => (first | omega | (dsimp only; omega))); (case b9 => k_extra "k_updF")))
  (k_with "k_ne" => (first | omega | (dsimp only; omega)))
  (k_with "mU" => (fail_if_success (fail_if_success (refine' updF_m ?_ ?m9; (case m9 => k_mem)))))
  (k_with "K6" => ((case k1 => k_asm); (case k2 => k_asm); (case k3 => k_asm); (case k5 => k_asm); (case k6 => first | exact rfl | assumption)))
  (k_with "ENTER" => (refine' enter_my ?k1 ?k2 ?k3 ?k4 ?k5 ?kA ?kF ?kK ?k6 ?k7 ?k8 ?k9 ?kB ?_ ?c2 ?c3 ?c4 ?c5; (case kA => exact rfl); (case kF => exact rfl); (case kK => assumption); (case k1 => k_asm); (case k2 => k_asm); (case k3 => k_asm); (case k4 => k_asm); (case k5 => k_asm); (case k6 => k_is); (case k7 => k_is); (case k8 => k_room); (case k9 => first | exact BindsTo.of_eq rfl | exact binds_K (by k_in) rfl (by k_is) rfl rfl rfl); (case c5 => decide); (case kB => exact locs rfl); (case c2 => exact rfl); (case c3 => exact rfl); (case c4 => exact rfl); k_whole; intro g' L' h' FG' F' N' B' X' T' kG' l1; (k_lt l1); (try dsimp only); (try k_lift B'); (try k_fold); (refine opq_QE (by passes_own) ?_; intro QG9 EG9 hpE9 hq9 he9)))
  (k_with "ENTERC" => (refine' enter_cells ?k1 ?k2 ?k3 ?k4 ?k5 ?kA ?kF ?kK ?k6 ?k7 ?k8 ?k9 ?kB ?kD ?_ ?c2 ?c3 ?c4; (case kA => exact rfl); (case kF => exact rfl); (case kK => assumption); (case k1 => k_asm); (case k2 => k_asm); (case k3 => k_asm); (case k4 => k_asm); (case k5 => k_asm); (case k6 => k_is); (case k7 => k_is); (case k8 => k_room); (case k9 => first | exact BindsTo.of_eq rfl | exact binds_K (by k_in) rfl (by k_is) rfl rfl rfl); (case kB => exact rfl); (case kD => decide +kernel); (case c2 => exact rfl); (case c3 => exact rfl); (case c4 => exact rfl); k_whole; intro g' L' h' tk' cells' FG' F' N' Y' B' X' T' kG' l1; (k_lt l1); k_cells Y'; (try dsimp only [List.cons_append, List.nil_append] at N'); (try dsimp only); (try k_lift B'); (try k_fold); (refine opq_QE (by passes_own) ?_; intro QG9 EG9 hpE9 hq9 he9)))
  (k_with "ENTERM" => (refine' enter_made ?k1 ?k2 ?k3 ?k4 ?k5 ?kA ?kF ?kK ?k6 ?k7 ?k8 ?k9 ?kB ?_ ?c2 ?c3 ?c4 ?c5; (case kA => exact rfl); (case kF => exact rfl); (case kK => assumption); (case k1 => k_asm); (case k2 => k_asm); (case k3 => k_asm); (case k4 => k_asm); (case k5 => k_asm); (case k6 => k_mem); (case k7 => exact codeRec_news (by k_asm) (by k_mem) (by assumption) (by assumption)); (case k8 => k_room); (case k9 => exact BindsTo.of_eq rfl); (case c5 => decide); (case kB => exact locs rfl); (case c2 => exact rfl); (case c3 => exact rfl); (case c4 => exact rfl); k_whole; intro g' L' h' FG' F' N' B' X' T' kG' l1; (k_lt l1); (try dsimp only); (try k_lift B'); (try k_fold); (refine opq_QE (by passes_own) ?_; intro QG9 EG9 hpE9 hq9 he9)))
  (k_with "CON0" => (first | unfold Con | unfold ConD); intro gd cn cs a ccd cl outer A₀ base h₀ L m s Q E B F X N T hk hret; (have N1 := N); (try dsimp only [List.nil_append, List.cons_append] at N1); (try simp only [List.append_nil] at N1))
  (k_with "CON" => (k_extra "CON0"; k_dflt k_extra "ENTER"))
  (k_with "CONM" => (k_extra "CON0"; k_dflt k_extra "ENTERM"))
  (k_with "CONMT" => ((first | unfold Con | unfold ConD); intro gd cn cs a ccd cl outer A₀ base h₀ L m s Q E B F X N T hk hret; (have N1 := news_flip N); (try dsimp only [List.nil_append, List.cons_append] at N1); (try simp only [List.append_nil] at N1); k_dflt k_extra "ENTERM"; (have kG2 := kG_flip (mu := [_]) kG')))
  (k_with "CONC" => (k_extra "CON0"; k_dflt k_extra "ENTERC"))
  (k_with "STEPSD" => repeat' (first | (k_unfold; (try dsimp only)) | (k_end; (fail_if_success (with_reducible show LeaveK h₀ L m _ _ _ _)); wrow_close) | ((fail_if_success (with_reducible show LeaveK h₀ L m _ _ _ _)); walk1) | ((fail_if_success (with_reducible show LeaveK h₀ L m _ _ _ _)); dsimp only; walk1) | (leave1; walk_say "STEP leave1"; try dsimp only) | walk_at "LEAVE9" | fail "no step"))
  (k_with "STEP1" => (first | (k_unfold; (try dsimp only)) | (k_end; (fail_if_success (with_reducible show LeaveK h₀ L m _ _ _ _)); wrow_close) | ((fail_if_success (with_reducible show LeaveK h₀ L m _ _ _ _)); walk1) | ((fail_if_success (with_reducible show LeaveK h₀ L m _ _ _ _)); dsimp only; walk1) | (leave1; walk_say "STEP leave1"; try dsimp only) | walk_at "LEAVE9" | fail "no step"))
  (k_with "STEPSP" => repeat' (first | ((with_reducible show wpAny _ _ (execs _ _) _ _ _); exfalso; omega) | (k_unfold; (try dsimp only)) | (k_end; (fail_if_success (with_reducible show LeaveK h₀ L m _ _ _ _)); wrow_close) | ((fail_if_success (with_reducible show LeaveK h₀ L m _ _ _ _)); walk1) | ((fail_if_success (with_reducible show LeaveK h₀ L m _ _ _ _)); dsimp only; walk1) | (leave1; walk_say "STEP leave1"; try dsimp only) | walk_at "LEAVE9" | fail "no step"))
  (k_with "TOLC" => repeat' (first | ((fail_if_success (with_reducible show wpAny _ _ (pyIter _) (LcAt _ _ _ _ _ _ _ _ _ _ _ _ _ _) _ _)); k_extra "STEP1")))
  (k_with "TOLCT" => repeat' (first | ((fail_if_success (with_reducible show wpAny _ _ (pyIter _) (LcAt _ _ _ _ _ _ _ _ _ _ _ _ _ _) _ _)); (fail_if_success (with_reducible show wpAny _ _ (pyIter _) (LcAtT _ _ _ _ _ _ _ _ _ _ _ _ _ _ _ _ _) _ _)); k_extra "STEP1")))
  (k_with "TOREST" => repeat' (first | ((fail_if_success (with_reducible show OwitRest _ _ _ _ _ _ _ _ _ _ _)); k_extra "STEP1")))
  (k_with "TOSTORE" => repeat' (first | ((fail_if_success (with_reducible show wpAny _ _ (storeName _ _ _) (fun _ s₂ => wpAny _ _ (execs _ _) _ _ s₂) _ _)); k_extra "STEP1")))
  (k_with "TOIT" => repeat' (first | ((fail_if_success (with_reducible show wpAny _ _ (pyIter _) (OwitAt _ _ _ _ _ _ _ _) _ _)); k_extra "STEP1")))
  (k_with "LV" => ((repeat walk_at "LEAVE9"); refine' leave_end ?hr ?N ?kG ?F2 ?N2 ?hs ?_; (case hr => assumption); (case N => assumption); (case kG => first | assumption | (simp only [List.append_nil, List.cons_append, List.nil_append]; assumption)); (case F2 => k_asm); (case N2 => k_asm); (case hs => rfl)))
  (k_with "LVD" => ((repeat walk_at "LEAVE9"); refine' leaveD_end ?hr ?N ?kG ?F2 ?N2 ?hs ?_; (case hr => assumption); (case N => assumption); (case kG => first | assumption | (simp only [List.append_nil, List.cons_append, List.nil_append]; assumption)); (case F2 => k_asm); (case N2 => k_asm); (case hs => rfl)))
  (k_with "SUBS" => (first | exact List.forall_mem_nil _ | kcf_all))
  (k_with "NES" => (first | exact trivial | ((repeat' (first | exact True.intro | refine And.intro ?_ ?_ | (show @Ne Nat _ _; omega))); done) | (simp only [List.take, List.nil_append, List.cons_append, List.append_nil, NwNe, AllNe, and_true]; done) | (simp only [List.take, List.nil_append, List.cons_append, List.append_nil, NwNe, AllNe, and_true]; omega)))
  (k_with "NES3" => (first | exact trivial | ((repeat' (first | exact True.intro | refine And.intro ?_ ?_ | (show @Ne Nat _ _; omega))); done) | (simp only [List.take, List.drop, List.nil_append, List.cons_append, List.append_nil, NwNe, AllNe, and_true]; done) | (simp only [List.take, List.drop, List.nil_append, List.cons_append, List.append_nil, NwNe, AllNe, and_true]; omega)))
  (k_with "NWS" => ((try simp only [Mach.ro, List.cons_append, List.nil_append]); repeat' (first | exact List.forall_mem_nil _ | ((refine fun p hp => NB p ?_); (repeat (first | exact hp | apply List.Mem.tail)); done) | ((refine news_take NB ?_ ?_); focus ((repeat (first | exact .head _ | apply List.Mem.tail)); done)))))
  (k_with "NE" => (repeat' (first | exact ne9_w | exact ne9_s | exact ne9_a | exact ne9_m | refine ne9_p ?_ ?_ | infer_instance)))
  (k_with "g" => ((with_reducible refine opqG ?_); intro G9 hG9))
  (k_with "h" => (refine hG9 ?_; clear hG9 G9))
  (k_with "lP" => fail_if_success (fail_if_success (have h9 := ln9_P)))
  (k_with "call builtin:list.append" => (k_extra "lP"; (k_here; (with_reducible show wpAny _ _ (call (Value.builtin _) [Value.ref _, _]) _ _ _); k_dflt (refine' append_A ?k1 ?k2 ?k3 ?z ?_; (case k1 => k_asm); (case k2 => k_asm); (case k3 => k_extra "mU"; k_updF); (case z => omega); k_whole); walk_at "TN")))
  (k_with "call builtin:list.pop" => (k_extra "lP"; (k_here; (with_reducible show wpAny _ _ (call (Value.builtin _) [Value.ref _, Value.int _ _]) _ _ _); k_dflt (refine' pop0_A ?k1 ?k2 ?k3 ?z ?_; (case k1 => k_asm); (case k2 => k_asm); (case k3 => k_extra "mU"; k_updF); (case z => omega); k_whole); walk_at "TN")))
  (k_with "truthy ref" => (k_extra "lP"; (k_here; k_dflt (refine' truthy_cons ?k1 ?k2 ?z ?_; (case k1 => k_asm); (case k2 => k_mem); (case z => omega); k_whole))))
  (k_with "lD" => fail_if_success (fail_if_success (have h9 := ln9_D)))
  (k_with "truthy ref" => (k_extra "lD"; (k_here; k_dflt (first | (refine' set_truthy1 ?k1 ?k2 ?k3 ?z ?_; (case k1 => k_asm); (case k2 => k_mem); (case k3 => assumption); (case z => omega); k_whole) | (refine' set_truthy0 ?k1 ?k2 ?k3 ?_; (case k1 => k_asm); (case k2 => k_mem); (case k3 => assumption); k_whole)))))
  (k_with "getMethod ref" => (k_extra "lD"; (k_here; (with_reducible show wpAny _ _ (getMethod (Value.ref _) (Str.ofString "pop") _) _ _ _); k_dflt (refine' setpop_method ?k1 ?k2 ?k3 ?_; (case k1 => k_asm); (case k2 => k_mem); (case k3 => assumption); k_whole))))
  (k_with "call builtin:set.pop" => (k_extra "lD"; (k_here; k_dflt (refine' setpop_K ?k1 ?k2 ?k3 ?k4 ?_; (case k1 => k_asm); (case k2 => k_asm); (case k3 => k_extra "mU"; k_updF); (case k4 => assumption); k_whole); walk_at "TN")))
  (k_with "lS" => fail_if_success (fail_if_success (have h9 := ln9_S)))
  (k_with "call ref" => (k_extra "lS"; (k_here; k_dflt (refine' cp_use ?kz ?b1 ?b2 (Nat.le_of_ble_eq_true rfl) (Nat.le_of_ble_eq_true rfl) ?k1 ?k2 ?k3 ?k4 ?k5 ?k6 ?_; (case k4 => k_asm); (case kz => exact List.Mem.head _); k_extra "K6"; (case b1 => omega); (case b2 => omega); k_whole); walk_at "TN")))
  (k_with "call type:int" => (k_extra "lS"; (k_here; (with_reducible show wpAny _ _ (call (Value.type "int") [Value.str _ _]) _ _ _); refine' int_fact ?k1 ?_; (case k1 => with_reducible assumption))))
  (k_with "lV" => fail_if_success (fail_if_success (have h9 := ln9_V)))
  (k_with "exec For Name Call cons nil" => (k_extra "lV"; (k_here; k_dflt (refine' owit_for (hs := ?hs) (hE := ?hE) ?_; (case hs => intro _; rfl); (case hE => first | assumption | exact PySem.PassesOwn.leaving | with_unfolding_all exact PySem.PassesOwn.leaving); k_whole))))
  (k_with "call builtin:list.reverse" => (k_extra "lV"; (k_here; (with_reducible show wpAny _ _ (call (Value.builtin _) [Value.ref _]) _ _ _); k_dflt (refine' rev_A ?F ?N ?U ?z ?_; (case F => k_asm); (case N => k_asm); (case U => k_extra "mU"; k_updF); (case z => omega); k_whole); walk_at "TN")))
  (k_with "call ref" => (k_extra "lV"; (k_here; (with_reducible show wpAny _ _ (call (Value.ref 50) _) _ _ _); k_dflt (refine' d21_u ?hx ?hb ?hn ?hz (Nat.le_of_ble_eq_true rfl) (Nat.le_of_ble_eq_true rfl) ?k1 ?k2 ?k3 ?k4 ?k5 ?k6 ?_; (case k4 => k_asm); k_extra "K6"; (case hz => exact .head _); (case hx => omega); (case hb => omega); (case hn => omega); k_whole); intros; (try k_sweep))))
  (k_with "call ref" => (k_extra "lV"; (k_here; (with_reducible show wpAny _ _ (call (Value.ref 64) _) _ _ _); k_dflt (refine' i2d_u1 ?hkx ?hk0 ?hx ?hn ?h8 ?hz ?hzl ?hU (Nat.le_of_ble_eq_true rfl) (Nat.le_of_ble_eq_true rfl) ?k1 ?k2 ?k3 ?k4 ?k5 ?k6 ?_; (case k4 => k_asm); (case hkx => with_reducible assumption); (case hk0 => with_reducible assumption); k_extra "K6"; (case hz => exact .head _); (case hzl => omega); (case hU => k_extra "mU"; k_updF); (case hx => omega); (case h8 => omega); (case hn => omega); k_whole); walk_at "TN")))
  (k_with "call ref" => (k_extra "lV"; (k_here; (with_reducible show wpAny _ _ (call (Value.ref 64) _) _ _ _); k_dflt (refine' i2d_u2 ?hkx ?hk0 ?hx ?hn ?h8 ?hz ?hzl ?hc ?ht ?ho (Nat.le_of_ble_eq_true rfl) (Nat.le_of_ble_eq_true rfl) ?k1 ?k2 ?k3 ?k4 ?k5 ?k6 ?_; (case k4 => k_asm); (case ho => with_reducible assumption); (case hkx => with_reducible assumption); (case hk0 => with_reducible assumption); k_extra "K6"; (case hz => exact .head _); (case hzl => omega); (case hc => k_mem); (case ht => k_mem); (case hx => omega); (case h8 => omega); (case hn => omega); k_whole); walk_at "TN")))
  (k_with "call ref" => (k_extra "lV"; (k_here; (with_reducible show wpAny _ _ (call (Value.ref 71) _) _ _ _); k_dflt (refine' d2i_u1 ?hi ?hs ?hB ?hn ?hz ?hzl ?hm ?hD ?hU (Nat.le_of_ble_eq_true rfl) (Nat.le_of_ble_eq_true rfl) ?k1 ?k2 ?k3 ?k4 ?k5 ?k6 ?_; (case k4 => k_asm); (case hi => with_reducible assumption); (case hB => with_reducible assumption); k_extra "K6"; (case hz => exact .head _); (case hzl => omega); (case hm => k_mem); (case hD => omega); (case hU => k_extra "mU"; k_updF); (case hs => omega); (case hn => omega); k_whole); walk_at "TN")))
  (k_with "call ref" => (k_extra "lV"; (k_here; (with_reducible show wpAny _ _ (call (Value.ref 71) _) _ _ _); k_dflt (refine' d2i_u2 ?hi ?hs ?hB ?hn ?hm ?hc ?ht ?ho (Nat.le_of_ble_eq_true rfl) (Nat.le_of_ble_eq_true rfl) ?k1 ?k2 ?k3 ?k4 ?k5 ?k6 ?_; (case k4 => k_asm); (case ho => with_reducible assumption); (case hi => with_reducible assumption); (case hB => with_reducible assumption); k_extra "K6"; (case hc => k_mem); (case hm => k_mem); (case ht => k_mem); (case hs => omega); (case hn => omega); k_whole); walk_at "TN")))
  (k_with "lT" => fail_if_success (fail_if_success (have h9 := ln9_T)))
  (k_with "exec For Name Name cons nil" => (k_extra "lT"; (k_here; k_dflt (refine' owit_for (hs := ?hs) (hE := ?hE) ?_; (case hs => intro _; rfl); (case hE => first | assumption | exact PySem.PassesOwn.leaving | with_unfolding_all exact PySem.PassesOwn.leaving); k_whole))))
  (k_with "call builtin:iter" => (k_extra "lT"; (k_here; k_dflt (refine' iter_two ?k1 ?k2 ?k3 ?_; (case k1 => k_asm); (case k2 => k_asm); (case k3 => k_mem); k_whole); walk_at "TL")))
  (k_with "pyIter ref" => (k_extra "lT"; ((with_reducible show wpAny _ _ (pyIter (Value.ref _)) (OwitAt _ _ _ _ _ _ _ _) _ _); k_here; k_dflt (refine' cit_iterN ?k1 ?k2 ?_; (case k1 => k_asm); (case k2 => k_mem); k_whole))))
  (k_with "pyNext ref" => (k_extra "lT"; ((with_reducible show wpAny _ _ (pyNext (Value.ref _)) (OwitTurn _ _ _ _ _ _ _ _ _) _ _); k_here; k_dflt (refine' cit_nextS (by assumption) ?kI ?ki (Nat.le_of_ble_eq_true rfl) (Nat.le_of_ble_eq_true rfl) ?k1 ?k2 ?k3 ?k4 ?k5 ?k6 ?kf ?k7 ?k8 ?kc ?kl ?k9 ?kp ?kI2 ?kq ?kq2 ?_; (case k4 => k_asm); (case kI => k_mem); k_extra "K6"; (case kf => k_is); (case k7 => k_extra "mU"; k_updF); (case k8 => intro o; k_extra "mU"; k_updF); (case kc => with_reducible assumption); (case kl => with_reducible (first | assumption | exact len_q | exact len_b)); (case ki => omega); (case k9 => first | exact List.forall_mem_nil _ | kcf_all); (case kp => omega); (case kI2 => intro o o2; k_mem); (case kq => k_mem); (case kq2 => intro o o2; k_mem); k_whole); walk_at "TN")))
  (k_with "call ref" => (k_extra "lT"; (k_here; k_dflt (refine' rch_useS (by assumption) ?ki (Nat.le_of_ble_eq_true rfl) (Nat.le_of_ble_eq_true rfl) ?k1 ?k2 ?k3 ?k4 ?k5 ?k6 ?k7 ?k8 ?kc ?kl ?k9 ?kp ?_; (case k4 => k_asm); k_extra "K6"; (case k7 => k_extra "mU"; k_updF); (case k8 => intro o; k_extra "mU"; k_updF); (case kc => with_reducible assumption); (case kl => with_reducible (first | assumption | exact len_q | exact len_b)); (case ki => omega); (case k9 => first | exact List.forall_mem_nil _ | kcf_all); (case kp => omega); k_whole); walk_at "TN")))
  (k_with "compareOp In str str" => (k_extra "lT"; (k_here; (with_reducible show wpAny _ _ (compareOp CmpOp.In (Value.str _ _) (Value.str _ _)) _ _ _); refine' in_fact ?k1 ?_; (case k1 => with_reducible (first | assumption | exact inw_q | exact inw_b)); k_whole)))
  (k_with "compareOp Eq str str" => (k_extra "lT"; (k_here; (with_reducible show wpAny _ _ (compareOp CmpOp.Eq (Value.str _ _) (Value.str _ _)) _ _ _); refine' eq_fact ?k1 ?_; (case k1 => with_reducible (first | assumption | exact eqb_qq | exact eqb_bq | exact eqb_bb)); k_whole)))
  (k_with "pyNext ref" => (k_extra "lT"; ((with_reducible show wpAny _ _ (pyNext (Value.ref _)) (OwitTurn _ _ _ _ _ _ _ _ _) _ _); k_here; k_dflt (refine' cit_nextE (by assumption) ?kI ?ki (Nat.le_of_ble_eq_true rfl) (Nat.le_of_ble_eq_true rfl) ?k1 ?k2 ?k3 ?k4 ?k5 ?k6 ?kf ?k7 ?k8 ?kc ?k9 ?kp ?kI2 ?kq ?kq2 ?kX ?kXn ?_; (case k4 => k_asm); (case kI => k_mem); k_extra "K6"; (case kf => k_is); (case k7 => k_extra "mU"; k_updF); (case k8 => intro o; k_extra "mU"; k_updF); (case kc => with_reducible assumption); (case ki => omega); (case k9 => first | exact List.forall_mem_nil _ | kcf_all); (case kp => omega); (case kI2 => intro o o2; k_mem); (case kq => k_mem); (case kq2 => intro o o2; k_mem); (case kX => intro o o2; exact rfl); (case kXn => intro o o2; k_all); k_whole); walk_at "TN")))
  (k_with "lR" => fail_if_success (fail_if_success (have h9 := ln9_R)))
  (k_with "call type:range" => (k_extra "lR"; (k_here; (with_reducible show wpAny _ _ (call (Value.type _) [Value.int _ _]) _ _ _); k_dflt (refine' range1_A ?F ?N ?_; (case F => k_asm); (case N => k_asm); k_whole); walk_at "TL")))
  (k_with "call type:range" => (k_extra "lR"; (k_here; (with_reducible show wpAny _ _ (call (Value.type _) [Value.int _ _, Value.int _ _]) _ _ _); k_dflt (refine' range2_A ?F ?N ?_; (case F => k_asm); (case N => k_asm); k_whole); walk_at "TL")))
  (k_with "exec For Name Call cons nil" => (k_extra "lR"; (k_here; k_dflt (refine' owit_for (hs := ?hs) (hE := ?hE) ?_; (case hs => intro _; rfl); (case hE => first | with_reducible assumption | assumption | exact PySem.PassesOwn.leaving | with_unfolding_all exact PySem.PassesOwn.leaving); k_whole))))
  (k_with "exec For Name Name cons nil" => (k_extra "lR"; (k_here; k_dflt (refine' owit_for (hs := ?hs) (hE := ?hE) ?_; (case hs => intro _; rfl); (case hE => first | with_reducible assumption | assumption | exact PySem.PassesOwn.leaving | with_unfolding_all exact PySem.PassesOwn.leaving); k_whole))))
  (k_with "lF" => fail_if_success (fail_if_success (have h9 := ln9_F)))
  (k_with "call ref" => (k_extra "lF"; (k_here; (with_reducible show wpAny _ _ (call (Value.ref 92) _) _ _ _); k_dflt (refine' rgb_u ?hx ?hn ?hr ?hg ?hb ?hz (Nat.le_of_ble_eq_true rfl) (Nat.le_of_ble_eq_true rfl) ?k1 ?k2 ?k3 ?k4 ?k5 ?k6 ?_; (case k4 => k_asm); k_extra "K6"; (case hz => exact .head _); (case hx => with_reducible assumption); (case hn => with_reducible assumption); (case hr => with_reducible assumption); (case hg => with_reducible assumption); (case hb => with_reducible assumption); k_whole); intros; (try k_sweep))))
  (k_with "call ref" => (k_extra "lF"; (k_here; (with_reducible show wpAny _ _ (call (Value.ref 99) _) _ _ _); k_dflt (refine' hsv_u ?hx ?hz (Nat.le_of_ble_eq_true rfl) (Nat.le_of_ble_eq_true rfl) ?k1 ?k2 ?k3 ?k4 ?k5 ?k6 ?_; (case k4 => k_asm); k_extra "K6"; (case hz => exact .head _); (case hx => with_reducible assumption); k_whole); intros; (try k_sweep))))
  (k_with "call builtin:round" => (k_extra "lF"; ((with_reducible refine' lamp_round ?hA ?hv ?_); (case hA => first | rfl | assumption); (case hv => with_reducible assumption); intro _ _)))
  (k_with "lT2" => fail_if_success (fail_if_success (have h9 := ln9_T2)))
  (k_with "k_all" => (k_extra "lT2"; exact allNe_to (by with_reducible assumption)))
  (k_with "k_mem" => (k_extra "lT2"; first | with_reducible assumption | assumption))
  (k_with "call ref" => (k_extra "lT2"; (k_here; (with_reducible show wpAny _ _ (call (Value.ref 170) _) _ _ _); k_dflt (refine' turned_u ?hm ?hc ?hk ?hz (Nat.le_of_ble_eq_true rfl) (Nat.le_of_ble_eq_true rfl) ?k1 ?k2 ?k3 ?k4 ?k5 ?k6 ?_; (case k4 => k_asm); (case hm => k_mem); k_extra "K6"; (case hz => exact .head _); (case hc => omega); (case hk => omega); k_whole); intros; (try k_sweep))))
  (k_with "call ref" => (k_extra "lT2"; (k_here; (with_reducible show wpAny _ _ (call (Value.ref 177) _) _ _ _); k_dflt (refine' sixths_u ?hm ?hc ?hz (Nat.le_of_ble_eq_true rfl) (Nat.le_of_ble_eq_true rfl) ?k1 ?k2 ?k3 ?k4 ?k5 ?k6 ?_; (case k4 => k_asm); (case hm => k_mem); k_extra "K6"; (case hz => exact .head _); (case hc => omega); k_whole); intros; (try k_sweep))))
  (k_with "lL" => fail_if_success (fail_if_success (have h9 := ln9_L)))
  (k_with "eval ListComp" => (k_extra "lL"; (k_here; k_dflt (refine' lc_eval ?h1 ?h2 ?h3 ?_ ?h4; (case h1 => first | rfl | with_unfolding_all rfl); (case h2 => rfl); (case h3 => decide); (case h4 => intro _; rfl); k_whole))))
  (k_with "exec Assign cons ListComp" => (k_extra "lL"; (k_here; k_dflt (refine' lc_assign ?h0 ?h1 ?h2 ?h3 ?_ ?h4; (case h0 => with_unfolding_all rfl); (case h1 => first | rfl | with_unfolding_all rfl); (case h2 => rfl); (case h3 => decide); (case h4 => intro _; rfl); k_whole))))
  (k_with "lG" => fail_if_success (fail_if_success (have h9 := ln9_G)))
  (k_with "exec Assign cons Subscript" => (k_extra "lG"; ((with_reducible show wpAny _ _ (exec (Stmt.Assign [Expr.Tuple _ _ _] _ _) _) _ _ _); refine Assign_Tuple ?_ (by first | kernel_rfl | rfl) (by first | kernel_rfl | rfl))))
  (k_with "subscriptTail Name Constant ref int" => (k_extra "lG"; (k_here; (with_reducible show wpAny _ _ (subscriptTail _ _ (Value.ref _) (Value.int _ _)) _ _ _); k_dflt (refine' get_I ?N ?hl ?hI ?hi ?hk ?hk2 ?_ ?hs; (case N => k_asm); (case hl => k_mem); (case hI => with_reducible assumption); (case hi => exact (Int.toNat_of_nonneg (by omega)).symm); (case hk => omega); (case hk2 => omega); (case hs => with_unfolding_all rfl); k_whole); intro _)))
  (k_with "compareOp NotIn int ref" => (k_extra "lG"; (k_here; k_dflt (refine' notin_A ?N ?hl ?hI ?hb ?_; (case N => k_asm); (case hl => k_mem); (case hI => with_reducible assumption); (case hb => exact rfl); k_whole))))
  (k_with "call builtin:list.extend" => (k_extra "lG"; (k_here; k_dflt (refine' ext_A ?F ?N ?hb ?U ?h1 ?h2 ?h3 ?_; (case F => k_asm); (case N => k_asm); (case hb => k_mem); (case U => k_extra "mU"; k_updF); (case h1 => omega); (case h2 => omega); (case h3 => omega); k_whole); walk_at "TN")))
  (k_with "call builtin:len" => (k_extra "lG"; (k_here; k_dflt (refine' len_A ?k1 ?k2 ?k3 ?k4 ?_; (case k1 => k_asm); (case k2 => k_mem); (case k3 => exact rfl); (case k4 => omega); k_whole); intro _ _)))
  (k_with "binaryOp Mod int int" => (k_extra "lG"; (with_reducible refine mod_int' (by omega) ?_)))
  (k_with "lU2" => fail_if_success (fail_if_success (have h9 := ln9_U2)))
  (k_with "eval ListComp" => (k_extra "lU2"; (k_here; (with_reducible show wpAny _ _ (eval (Expr.ListComp _ [PySem.Comprehension.mk (Expr.Tuple _ _ _) _ _ _] _ _) _) _ _ _); k_dflt (refine' lc_evalT ?h1 ?h2 ?h3 ?_ ?h4; (case h1 => first | rfl | with_unfolding_all rfl); (case h2 => rfl); (case h3 => decide); (case h4 => intro _; rfl); k_whole))))
  (k_with "lX" => fail_if_success (fail_if_success (have h9 := ln9_X)))
  (k_with "subscriptTail Name Name ref int" => (k_extra "lX"; (k_here; (with_reducible show wpAny _ _ (subscriptTail _ _ (Value.ref _) (Value.int _ _)) _ _ _); k_dflt (refine' get_S ?N ?hl ?hI ?hi ?hk ?hk2 ?_ ?hs; (case N => k_asm); (case hl => k_mem); (case hI => with_reducible assumption); (case hi => exact (Int.toNat_of_nonneg (by omega)).symm); (case hk => omega); (case hk2 => omega); (case hs => with_unfolding_all rfl); k_whole); intro _)))
  (k_with "subscriptTail Name Name ref int" => (k_extra "lX"; (k_here; (with_reducible show wpAny _ _ (subscriptTail _ _ (Value.ref _) (Value.int _ _)) _ _ _); k_dflt (refine' get_I ?N ?hl ?hI ?hi ?hk ?hk2 ?_ ?hs; (case N => k_asm); (case hl => k_mem); (case hI => with_reducible assumption); (case hi => exact (Int.toNat_of_nonneg (by omega)).symm); (case hk => omega); (case hk2 => omega); (case hs => with_unfolding_all rfl); k_whole); intro _)))
  (k_with "call builtin:len" => (k_extra "lX"; (k_here; k_dflt (refine' len_A ?k1 ?k2 ?k3 ?k4 ?_; (case k1 => k_asm); (case k2 => k_mem); (case k3 => exact rfl); (case k4 => omega); k_whole); intro _ _)))
  (k_with "binaryOp Mod int int" => (k_extra "lX"; (with_reducible refine mod_int' (by omega) ?_)))
  (k_with "binaryOp Add str str" => (k_extra "lX"; (k_here; (with_reducible show wpAny _ _ (binaryOp Operator.Add (Value.str _ _) (Value.str _ _)) _ _ _); refine' add_S ?hl ?_; (case hl => (simp only [PySem.Str.length_append, len_q1, len_b1, len_one, len_item]; omega)); intro _ _)))
  (k_with "call builtin:str.join" => (k_extra "lX"; (k_here; (with_reducible show wpAny _ _ (call (Value.builtin "str.join") [Value.str _ _, Value.ref _]) _ _ _); k_dflt (refine' join_S ?N ?hl ?hi ?hs ?hw ?_; (case N => k_asm); (case hl => k_mem); (case hi => with_reducible assumption); (case hs => decide); (case hw => with_reducible assumption); k_whole); intro _ _)))
  (k_with "lU" => fail_if_success (fail_if_success (have h9 := ln9_U)))
  (k_with "call ref" => (k_extra "lU"; (k_here; (with_reducible show wpAny _ _ (call (Value.ref _) [Value.int _ _, Value.int _ _]) _ _ _); k_dflt (refine' div_u1 ?C ?hz ?hzl ?hU ?hU2 ?d1 ?d2 ?k1 ?k2 ?k3 ?k4 ?k5 ?k6 ?_; (case C => with_reducible assumption); (case d1 => exact Nat.le_of_ble_eq_true rfl); (case d2 => exact Nat.le_of_ble_eq_true rfl); (case k4 => k_asm); k_extra "K6"; (case hz => exact .head _); (case hzl => omega); (case hU => k_extra "mU"; k_updF); (case hU2 => intro o; k_extra "mU"; k_updF); k_whole); walk_at "TN")))
  (k_with "call ref" => (k_extra "lU"; (k_here; (with_reducible show wpAny _ _ (call (Value.ref _) [Value.int _ _, Value.int _ _]) _ _ _); k_dflt (refine' div_u2 ?C ?hz ?hzl ?ht1 ?hc1 ?ht2 ?hc2 ?hl1 ?hl2 ?ho1 ?ho2 ?d1 ?d2 ?k1 ?k2 ?k3 ?k4 ?k5 ?k6 ?_; (case C => with_reducible assumption); (case d1 => exact Nat.le_of_ble_eq_true rfl); (case d2 => exact Nat.le_of_ble_eq_true rfl); (case ho1 => with_reducible assumption); (case ho2 => with_reducible assumption); (case k4 => k_asm); k_extra "K6"; (case hz => exact .head _); (case hzl => omega); (case ht1 => k_mem); (case hc1 => k_mem); (case ht2 => k_mem); (case hc2 => k_mem); (case hl1 => omega); (case hl2 => omega); k_whole); walk_at "TN")))
  (k_with "lW" => fail_if_success (fail_if_success (have h9 := ln9_W)))
  (k_with "subscriptTail Name Subscript ref int" => (k_extra "lW"; (k_here; k_dflt (refine' kda_item (knd := intKind _ _) ?N ?hp ?hd ?hk ?hl ?_ ?hs; (case N => k_asm); (case hp => k_mem); (case hd => with_reducible assumption); (case hk => exact intKind_is _ _ _ _); (case hl => with_reducible assumption); (case hs => with_unfolding_all rfl); k_whole))))
  (k_with "lY" => fail_if_success (fail_if_success (have h9 := ln9_Y)))
  (k_with "k_all" => (k_extra "lY"; (refine allNe_to ?_; repeat' (first | (with_reducible assumption) | exact trivial | (refine allNe_cons (by dsimp only; omega) ?_)))))
  (k_with "call ref" => (k_extra "lY"; (k_here; (with_reducible show wpAny _ _ (call (Value.ref 146) _) _ _ _); k_dflt (refine' drawn_u ?hI ?hl ?hz (Nat.le_of_ble_eq_true rfl) (Nat.le_of_ble_eq_true rfl) ?hs ?k1 ?k2 ?k3 ?k4 ?k5 ?k6 ?_; (case k4 => k_asm); k_extra "K6"; (case hz => exact .head _); (case hs => with_reducible assumption); (case hI => with_reducible assumption); (case hl => with_reducible assumption); k_whole); intros; (try k_sweep))))
  (k_with "exec Assign cons Call" => (k_extra "lY"; ((with_reducible show wpAny _ _ (exec (Stmt.Assign [Expr.Tuple _ _ _] _ _) _) _ _ _); refine Assign_Tuple ?_ (by first | kernel_rfl | rfl) (by first | kernel_rfl | rfl))))
  (k_with "call type:str" => (k_extra "lY"; (k_here; (with_reducible show wpAny _ _ (call (Value.type "str") [Value.int _ _]) _ _ _); k_dflt (refine' str_I ?hb ?_; (case hb => omega); k_whole); intro _ _)))
  (k_with "call ref" => (k_extra "lY"; (k_here; (with_reducible show wpAny _ _ (call (Value.ref 151) _) _ _ _); k_dflt (refine' text_u ?hI ?hq ?hl ?hql ?hx ?hW ?hS (Nat.le_of_ble_eq_true rfl) (Nat.le_of_ble_eq_true rfl) ?k1 ?k2 ?k3 ?k4 ?k5 ?k6 ?_; (case k4 => k_asm); k_extra "K6"; (case hW => k_mem); (case hS => k_mem); (case hI => with_reducible assumption); (case hq => with_reducible assumption); (case hl => with_reducible assumption); (case hql => with_reducible assumption); (case hx => with_reducible assumption); k_whole); intros; (try k_sweep))))
  (k_with "call ref" => (k_extra "lY"; (k_here; (with_reducible show wpAny _ _ (call (Value.ref 158) _) _ _ _); k_dflt (refine' mach_u ?hx ?hz ?hzl ?hU (Nat.le_of_ble_eq_true rfl) (Nat.le_of_ble_eq_true rfl) ?k1 ?k2 ?k3 ?k4 ?k5 ?k6 ?_; (case k4 => k_asm); k_extra "K6"; (case hz => exact .head _); (case hzl => omega); (case hx => with_reducible assumption); (case hU => k_extra "mU"; k_updF); k_whole); walk_at "TC")))
  (k_with "lN" => fail_if_success (fail_if_success (have h9 := ln9_N)))
  (k_with "call ref" => (k_extra "lN"; (k_here; (with_reducible show wpAny _ _ (call (Value.ref 85) [Value.int _ _, Value.int _ _]) _ _ _); k_dflt (refine' div_u3 ?C ?hzl ?hl ?ht1 ?hc1 ?ht2 ?hc2 ?ho1 ?ho2 ?d1 ?d2 ?k1 ?k2 ?k3 ?k4 ?k5 ?k6 ?_; (case C => with_reducible assumption); (case d1 => exact Nat.le_of_ble_eq_true rfl); (case d2 => exact Nat.le_of_ble_eq_true rfl); (case ho1 => with_reducible assumption); (case ho2 => with_reducible assumption); (case k4 => k_asm); k_extra "K6"; (case ht1 => k_mem); (case hc1 => k_mem); (case ht2 => k_mem); (case hc2 => k_mem); (case hzl => omega); (case hl => omega); k_whole); walk_at "TA")))
  (k_with "call ref" => (k_extra "lN"; (k_here; (with_reducible show wpAny _ _ (call (Value.ref 170) _) _ _ _); k_dflt (refine' turned_u3 ?hm ?hc ?hk ?hz (Nat.le_of_ble_eq_true rfl) (Nat.le_of_ble_eq_true rfl) ?k1 ?k2 ?k3 ?k4 ?k5 ?k6 ?_; (case k4 => k_asm); (case hm => k_mem); k_extra "K6"; (case hz => exact .head _); (case hc => omega); (case hk => omega); k_whole); walk_at "TA")))
  (k_with "lZ" => fail_if_success (fail_if_success (have h9 := ln9_Z)))
  (k_with "call ref" => (k_extra "lZ"; (k_here; (with_reducible show wpAny _ _ (call (Value.ref 127) _) _ _ _); k_dflt (refine' tok_u ?hd ?h6 ?hql ?hqr ?hk ?hn ?hx0 ?hch ?hrc ?hU ?hU2 ?hro ?hP (Nat.le_of_ble_eq_true rfl) (Nat.le_of_ble_eq_true rfl) ?k1 ?k2 ?k3 ?k4 ?k5 ?k6 ?_; (case k4 => k_asm); k_extra "K6"; (case hrc => with_reducible assumption); (case hch => with_reducible assumption); (case hU => k_extra "mU"; k_updF); (case hU2 => intro o; k_extra "mU"; k_updF); (case hd => with_reducible assumption); (case h6 => with_reducible assumption); (case hql => with_reducible assumption); (case hqr => with_reducible assumption); (case hk => with_reducible assumption); (case hn => with_reducible assumption); (case hx0 => with_reducible assumption); (case hro => (repeat (first | with_reducible assumption | refine sub_cons ?_))); (case hP => k_mem); k_whole); walk_at "TN")))
  (k_with "call ref" => (k_extra "lZ"; (k_here; (with_reducible show wpAny _ _ (call (Value.ref 127) _) _ _ _); k_dflt (refine' tokE_u ?hd ?h6 ?hn0 ?hn ?hch ?hrc ?hU ?hU2 ?hro ?hP (Nat.le_of_ble_eq_true rfl) (Nat.le_of_ble_eq_true rfl) ?k1 ?k2 ?k3 ?k4 ?k5 ?k6 ?_; (case k4 => k_asm); k_extra "K6"; (case hrc => with_reducible assumption); (case hch => with_reducible assumption); (case hU => k_extra "mU"; k_updF); (case hU2 => intro o; k_extra "mU"; k_updF); (case hd => with_reducible assumption); (case h6 => with_reducible assumption); (case hn0 => with_reducible assumption); (case hn => with_reducible assumption); (case hro => (repeat (first | with_reducible assumption | refine sub_cons ?_))); (case hP => k_mem); k_whole); walk_at "TN")))
  (k_with "call ref" => (k_extra "lZ"; (k_here; (with_reducible show wpAny _ _ (call (Value.ref 43) _) _ _ _); k_dflt (refine' ifs_u1 ?hb ?hx ?hz ?hzl ?hU (Nat.le_of_ble_eq_true rfl) (Nat.le_of_ble_eq_true rfl) ?k1 ?k2 ?k3 ?k4 ?k5 ?k6 ?_; (case k4 => k_asm); k_extra "K6"; (case hx => first | exact rfl | with_reducible assumption); (case hb => with_reducible assumption); (case hz => exact .tail _ (.head _)); (case hzl => omega); (case hU => k_extra "mU"; k_updF); k_whole); walk_at "TN")))
  (k_with "call ref" => (k_extra "lZ"; (k_here; (with_reducible show wpAny _ _ (call (Value.ref 43) _) _ _ _); k_dflt (refine' ifs_u2 ?hb ?hx ?ht ?hc ?hzl ?ho (Nat.le_of_ble_eq_true rfl) (Nat.le_of_ble_eq_true rfl) ?k1 ?k2 ?k3 ?k4 ?k5 ?k6 ?_; (case k4 => k_asm); k_extra "K6"; (case hx => first | exact rfl | with_reducible assumption); (case hb => with_reducible assumption); (case ht => k_mem); (case hc => k_mem); (case hzl => omega); (case ho => with_reducible assumption); k_whole); walk_at "TN")))
  (k_with "lQ" => fail_if_success (fail_if_success (have h9 := ln9_Q)))
  (k_with "call ref" => (k_extra "lQ"; (k_here; (with_reducible show wpAny _ _ (call (Value.ref 134) _) _ _ _); k_dflt (refine' push_u ?hch ?hsz ?hM ?hd ?hU (Nat.le_of_ble_eq_true rfl) (Nat.le_of_ble_eq_true rfl) ?k1 ?k2 ?k3 ?k4 ?k5 ?k6 ?_; (case k4 => k_asm); k_extra "K6"; (case hch => with_reducible assumption); (case hM => k_mem); (case hd => k_mem); (case hU => k_extra "mU"; k_updF); (case hsz => omega); k_whole); walk_at "TN")))
  (k_with "call ref" => (k_extra "lQ"; (k_here; (with_reducible show wpAny _ _ (call (Value.ref 127) _) _ _ _); k_dflt (refine' pop_u ?hch ?hsz ?hM ?hd ?hU (Nat.le_of_ble_eq_true rfl) (Nat.le_of_ble_eq_true rfl) ?k1 ?k2 ?k3 ?k4 ?k5 ?k6 ?_; (case k4 => k_asm); k_extra "K6"; (case hch => with_reducible assumption); (case hM => k_mem); (case hd => k_mem); (case hU => k_extra "mU"; k_updF); (case hsz => omega); k_whole); walk_at "TN")))
  trivial
theorem L_P.ln9_P : True := trivial
theorem L_D.ln9_D : True := trivial
theorem L_S.ln9_S : True := trivial
theorem L_V.ln9_V : True := trivial
theorem L_T.ln9_T : True := trivial
theorem L_R.ln9_R : True := trivial
theorem L_F.ln9_F : True := trivial
theorem L_T2.ln9_T2 : True := trivial
theorem L_L.ln9_L : True := trivial
theorem L_G.ln9_G : True := trivial
theorem L_U2.ln9_U2 : True := trivial
theorem L_X.ln9_X : True := trivial
theorem L_U.ln9_U : True := trivial
theorem L_W.ln9_W : True := trivial
theorem L_Y.ln9_Y : True := trivial
theorem L_N.ln9_N : True := trivial
theorem L_Z.ln9_Z : True := trivial
theorem L_Q.ln9_Q : True := trivial
section
section
variable (prog : Program) (w : World) (loose : List Str) (mean : ExcName → Option Value) (mg mb : Str → Option Value)
noncomputable abbrev citObj (q : Addr) (y : Str) (t : Tok) : Obj := { cls := .type "callable_iterator", data := .fields #[.ref q, .str y t, .bool false] }
theorem it_kind : builtinKind "iter" = none := by decide +kernel
theorem it_plain : plainId "iter" = true := by decide +kernel
theorem it_entry : entryFor table "iter" = some Builtin.«iter» := kdk_entry_iter
theorem it_args (a b : Value) : argsOk "iter" ⟨[a, b], []⟩ := by unfold argsOk; kernel_rfl
theorem mt_call : typeLookup (.type "method") (Str.ofString "__call__") = pure (some (.builtin "method.__call__")) := by rw [typeLookup_type, builtinLookup_eq_fast]; kernel_rfl
theorem cb_eq (f : Value) (pos : List Value) : callBorrowed f pos = (call f pos).keep [borrowed] := by
  unfold callBorrowed call runValue run
  show Sem.call _ _ _ _ _ = Sem.call _ _ _ _ _
  congr 1
  funext r
  rcases r with e | (v | _ | _ | _) <;> rfl
section
variable {prog : Program} {w : World} {A : Around} {E : Value → Shared → Prop} {s : Shared} {h₀ : Heap} {L q : Addr} {m : Str → Option Value} {news : Led}
theorem iter_two {f self : Value} {y : Str} {t : Tok} {Q : Value → Shared → Prop} (F : Fr h₀ L s.heap m) (N : News h₀ L s.heap news) (hq : (q, methodObj f self) ∈ news)
    (h : ∀ I h', Fr h₀ L h' m → News h₀ L h' ((I, citObj q y t) :: news) → (∀ p ∈ news, p.1 < I) → Q (.ref I) { s with heap := h' }) :
    wpAny (model prog w) A (call (.builtin "iter") [.ref q, .str y t]) Q E s := by
  have hT : Looks (model prog w) s.heap (typeOf (.ref q)) (.type "method") := (Looks.ld (N _ hq).1).andThen .now
  refine Calls.call_function_entry it_kind it_plain it_entry (it_args _ _) ?_
  unfold Builtin.«iter»
  refine wpAny_bind (wpAny_of_eq (show PySem.someArgs "iter" 1 2 ⟨[Value.ref q, Value.str y t], []⟩ = pure [Value.ref q, Value.str y t] by kernel_rfl) ?_)
  dsimp only
  unfold specialOf
  refine wpAny_bind (wpAny_bind (hT.here ?_))
  rw [mt_call]
  refine wpAny_pure ?_
  refine wpAny_bind (wpAny_rule ?_)
  refine wpAny_bind ?_
  unfold newFields
  refine wpAny_newObj_type ?_
  refine wpAny_pure ⟨_, rfl, h _ _ (F.push _) (N.push F _ rfl) fun p hp => Heap.lt_size (N p hp).1⟩
theorem ci_slot : Slot "callable_iterator" "__next__" "callable_iterator.__next__" := .of (owner := "callable_iterator") (n := "__next__") (by rw [typeLookup_type, builtinLookup_eq_fast]; kernel_rfl) (by decide +kernel) (by decide +kernel) (by decide +kernel)
    (by first | exact .inl (by decide +kernel) | exact .inr (by decide +kernel)) (by rw [isSubtype_type]; kernel_rfl)
theorem ci_entry : entryFor table "callable_iterator.__next__" = some Builtin.«callable_iterator.__next__» := entryFor_of_tree (by kernel_rfl)
theorem ci_args (a : Value) : argsOk "callable_iterator.__next__" ⟨[a], []⟩ := by unfold argsOk; kernel_rfl
theorem borrow_meth {f : Addr} {self : Value} {Q : Bool → Shared → Prop} (hq : s.heap.get? q = some (methodObj (.ref f) self)) (hf : FnAt f s.heap) (h : Q true s) : wpAny (model prog w) A (borrowsExactly (.ref q)) Q E s := by
  k_extra "g"
  obtain ⟨oc, od, fd, sl, hf⟩ := hf
  k_extra "h"
  unfold borrowsExactly
  refine wpAny_bind (wpAny_load hq ?_)
  dsimp only
  refine wpAny_bind (wpAny_load hf ?_)
  exact wpAny_pure h
namespace cit_next
noncomputable section
def Claim9 (prog : Program) (w : World) (A : Around) (E : Value → Shared → Prop) (s : Shared) (q I f : Addr) (self : Value) (y : Str) (t : Tok) (Q : Option Value → Shared → Prop) : Prop := ∀ (hh : A.handled = none) (hI : s.heap.get? I = some (citObj q y t)) (hq : s.heap.get? q = some (methodObj (.ref f) self)) (hf : FnAt f s.heap) (h : wpAny (model prog w) A.in1 (call (.ref q) []) (fun v s' => ∃ z tz, v = .str z tz ∧ s'.heap.get? I = some (citObj q y t) ∧ s'.heap.get? q = some (methodObj (.ref f) self) ∧ FnAt f s'.heap ∧ (z ≠ y → Q (some v) s') ∧ (z = y → ∀ h', Heap.ExtBut I s'.heap h' → Q none { s' with heap := h' })) (fun _ _ => False) s), wpAny (model prog w) A (pyNext (.ref I)) Q E s
abbrev T9 : Type := ((((Program × World) × Around) × (((Value → Shared → Prop) × Shared) × Addr)) × (((Addr × Addr) × Value) × ((Str × Tok) × (Option Value → Shared → Prop))))
def U9 (t : T9) : Prop := Claim9 t.1.1.1.1 t.1.1.1.2 t.1.1.2 t.1.2.1.1 t.1.2.1.2 t.1.2.2 t.2.1.1.1 t.2.1.1.2 t.2.1.2 t.2.2.1.1 t.2.2.1.2 t.2.2.2
@[irreducible] def v9 : T9 := ch9 (by k_extra "NE") U9
theorem spec9 : U9 v9 → ∀ t, U9 t := by with_unfolding_all exact sp9 _ U9
theorem core9 : U9 v9 := by
  refine (let prog := v9.1.1.1.1; let w := v9.1.1.1.2; let A := v9.1.1.2; let E := v9.1.2.1.1; let s := v9.1.2.1.2; let q := v9.1.2.2; let I := v9.2.1.1.1; let f := v9.2.1.1.2; let self := v9.2.1.2; let y := v9.2.2.1.1; let t := v9.2.2.1.2; let Q := v9.2.2.2; (?_ : Claim9 prog w A E s q I f self y t Q))
  clear_value prog w A E s q I f self y t Q
  intro hh hI hq hf h
  have hT : s.TypeIs (.ref I) "callable_iterator" := ⟨_, hI, rfl⟩
  unfold pyNext
  refine wpAny_bind (wpAny_attempt (wpAny_callSpecial?_slot (name := Str.ofString "__next__") hT ci_slot (wpAny_call_entry ci_slot hT ci_entry ?_ (ci_args _))))
  unfold Builtin.«callable_iterator.__next__»
  refine wpAny_bind (wpAny_of_eq (show slotArgs "__next__" 0 ⟨[Value.ref I], []⟩ = pure (Value.ref I, []) by kernel_rfl) ?_)
  dsimp only
  refine wpAny_bind (wpAny_field hI rfl (x := .bool false) rfl ?_)
  show wpAny _ _ (if (Value.bool false == Value.bool true) = true then _ else _) _ _ s
  rw [if_neg (by decide)]
  refine wpAny_bind (wpAny_field hI rfl (x := .ref q) rfl ?_)
  unfold callOutOfASlot
  refine wpAny_bind (wpAny_attempt (wpAny_bind (borrow_meth hq hf ?_)))
  rw [if_pos rfl, cb_eq]
  refine Calls.wpAny_keep (wpAny_mono h (fun v s' hv => ?_) fun _ _ h => h.elim)
  k_extra "g"
  refine ex_2 hv fun z tz k_ => and_6 k_ fun r1_ hI' hq' hf' h1 h2 => ?_
  clear k_ hv
  subst r1_
  k_extra "h"
  dsimp only
  refine wpAny_bind (wpAny_field hI' rfl (x := .bool false) rfl ?_)
  show wpAny _ _ (if (Value.bool false == Value.bool true) = true then _ else _) _ _ s'
  rw [if_neg (by decide)]
  refine wpAny_bind (wpAny_field hI' rfl (x := .str y t) rfl ?_)
  refine wpAny_bind (wpAny_holding (eqBool_str ?_))
  by_cases e : z = y
  · have : (y == z) = true := by rw [e]; exact beq_self_eq_true y
    rw [this]
    rw [if_neg (by decide)]
    refine wpAny_bind (wpAny_rule (wpAny_bind ?_))
    change wpAny _ _ (field (.ref I) 0 >>= fun old => slotLetsGo "callable_iterator.__next__" old _ >>= fun _ => setField (.ref I) 0 .none >>= fun _ => setField (.ref I) 1 .none >>= fun _ => setField (.ref I) 2 (.bool true)) _ _ _
    refine wpAny_bind (wpAny_field hI' rfl (x := .ref q) rfl ?_)
    refine wpAny_bind ?_
    unfold slotLetsGo
    dsimp only
    refine wpAny_bind (borrow_meth hq' hf' ?_)
    rw [if_pos rfl]
    refine wpAny_pure ?_
    refine wpAny_bind (wpAny_setField_rec hI' (by simp) fun k1 e1 b1 => ?_)
    refine wpAny_bind (wpAny_setField_rec e1 (by simp) fun k2 e2 b2 => ?_)
    refine wpAny_setField_rec e2 (by simp) fun k3 e3 b3 => ?_
    have hx : Heap.ExtBut I s'.heap k3 := fun b o hb e => (b3.2 b hb).trans ((b2.2 b hb).trans ((b1.2 b hb).trans e))
    unfold PySem.Builtin.SmallTypes.stopIteration
    refine wpAny_bind ?_
    simp only [newExc, newTuple]
    refine wpAny_bind (wpAny_newObj_type ?_ (by size_fits))
    refine wpAny_bind (m := firstArgMember _ _) (wpAny_of_eq (a := Value.none) (by first | rfl | (simp only [firstArgMember]; rfl)) ?_)
    refine wpAny_newObj_type ?_ (by size_fits)
    simp only [raiseNew]
    refine wpAny_bind (wpAny_handled ?_)
    rw [show A.in1.handled = none from hh]
    refine wpAny_bind (wpAny_pure (wpAny_throw ?_))
    refine wpAny_bind (wpAny_isInstance (T := "StopIteration") (b := true) ⟨_, Heap.get?_push_size _ rfl, rfl⟩ isSubtype_stop ?_)
    exact wpAny_pure (h2 e _ ((hx.push _).push _))
  · have : (y == z) = false := beq_eq_false_iff_ne.mpr fun q => e q.symm
    rw [this]
    exact wpAny_pure ⟨_, rfl, wpAny_pure (h1 e)⟩
end
end cit_next
theorem cit_next {I f : Addr} {self : Value} {y : Str} {t : Tok} {Q : Option Value → Shared → Prop} (hh : A.handled = none) (hI : s.heap.get? I = some (citObj q y t)) (hq : s.heap.get? q = some (methodObj (.ref f) self)) (hf : FnAt f s.heap)
    (h : wpAny (model prog w) A.in1 (call (.ref q) []) (fun v s' => ∃ z tz, v = .str z tz ∧ s'.heap.get? I = some (citObj q y t) ∧ s'.heap.get? q = some (methodObj (.ref f) self) ∧ FnAt f s'.heap ∧ (z ≠ y → Q (some v) s') ∧ (z = y → ∀ h', Heap.ExtBut I s'.heap h' → Q none { s' with heap := h' })) (fun _ _ => False) s) :
    wpAny (model prog w) A (pyNext (.ref I)) Q E s := ((cit_next.spec9 cit_next.core9 ((((prog, w), A), ((E, s), q)), (((I, f), self), ((y, t), Q))) : cit_next.Claim9 prog w A E s q I f self y t Q)) hh hI hq hf h
end
theorem ci_islot : Slot "callable_iterator" "__iter__" "callable_iterator.__iter__" := .of (owner := "callable_iterator") (n := "__iter__") (by rw [typeLookup_type, builtinLookup_eq_fast]; kernel_rfl) (by decide +kernel) (by decide +kernel) (by decide +kernel)
    (by first | exact .inl (by decide +kernel) | exact .inr (by decide +kernel)) (by rw [isSubtype_type]; kernel_rfl)
theorem ci_ientry : entryFor table "callable_iterator.__iter__" = some Builtin.«dict_keyiterator.__iter__» := entryFor_alias (id' := "dict_keyiterator.__iter__") (by rw [fastTable_eq_tree]; kernel_rfl) rfl (by decide +kernel) (by rw [fastTable_eq_tree]; kernel_rfl)
theorem ci_iargs (a : Value) : argsOk "callable_iterator.__iter__" ⟨[a], []⟩ := by unfold argsOk; kernel_rfl
theorem cit_iter {prog : Program} {w : World} {A : Around} {E : Value → Shared → Prop} {s : Shared} {I q : Addr} {y : Str} {t : Tok} {Q : Value → Shared → Prop} (hI : s.heap.get? I = some (citObj q y t)) (h : Q (.ref I) s) : wpAny (model prog w) A (pyIter (.ref I)) Q E s := by
  have hT : s.TypeIs (.ref I) "callable_iterator" := ⟨_, hI, rfl⟩
  refine wpAny_pyIter_slot hT ci_islot (wpAny_call_entry ci_islot hT ci_ientry ?_ (ci_iargs _))
  show wpAny _ _ (do ret (.ref I)) _ _ s
  exact wpAny_pure ⟨_, rfl, "callable_iterator", _, hT, ci_slot.lookup, h⟩
def RchCon (prog : Program) (w : World) (loose : List Str) (mean : ExcName → Option Value) (mg mb : Str → Option Value) (x : Str) (M d A S P : Addr) (h1 h2 h3 h4 : Int) (t1 t2 t3 t4 tw : Tok) (ro : Led) : Prop :=
  ∀ (ln : Int) (i : Nat) (tl ti : Tok) (n4 : Nat), i ≤ x.length → Con prog w loose mean mg mb 358 290 120 [.ref M] ro [(d, machDict h1 h2 h3 h4 t1 t2 t3 t4 ln tl S tw P), (A, W.listOf #[.int i ti] n4)]
      (fun r mu' nw => nw = [] ∧ ∃ t' tl' ti' n4', r = .str (cutAt x i) t' ∧ mu' = [(d, machDict h1 h2 h3 h4 t1 t2 t3 t4 (if cutAt x i = Str.ofString "\n" then ln + 1 else ln) tl' S tw P), (A, W.listOf #[.int ((i : Int) + ((cutAt x i).length : Int)) ti'] n4')])
section
variable {prog : Program} {w : World} {loose : List Str} {mean : ExcName → Option Value} {mg mb : Str → Option Value} {D U dp un f : Nat} {vs : List Value} {ro big : Led} {R : Value → Led → Led → Prop}
  {gd : Option (List Code)} {cn : Str} {cs : Scope} {a : Addr} {ccd : Value} {cl : List (Str × Addr)} {outer : List Env} {A₀ : Around} {base h₀ : Heap} {L : Addr} {m : Str → Option Value} {s : Shared} {E : Value → Shared → Prop}
theorem con_use2 {P P2 : Addr} {o o2 : Obj} {g : Obj → Led} {g2 : Obj → Obj → Led} {Q : Value → Shared → Prop} (C : Con prog w loose mean mg mb D U f vs ro [(P, o), (P2, o2)] R) (hdp : dp ≤ D) (hu : un ≤ U) (B : Below A₀ base outer h₀) (F : Fr h₀ L s.heap m) (X : (kf.heap_1 w.params).In h₀) (N : News h₀ L s.heap big) (T : Top topProg loose mean mg mb h₀) (hk : cs.kind = .function)
    (hU : UpdF P o big g) (hU2 : ∀ o, UpdF P2 o2 (g o) (g2 o)) (hro : ∀ p ∈ ro, p ∈ big) (hPP : P ≠ P2)
    (ret : ∀ r o' o2' h' tk', Fr h₀ L h' m → News h₀ L h' (g2 o' o2') → R r [(P, o'), (P2, o2')] [] → Q r { s with heap := h', toks := tk' })
    (hP : ∀ r mu' nw, R r mu' nw → ∃ o' o2', mu' = [(P, o'), (P2, o2')] ∧ nw = []) :
    codeAny (model prog w) (ktrTop dp un gd cn cs L a ccd cl outer) (.call (.ref f) ⟨vs, []⟩) (fun r s' => match r with | .ok (.ret v) => Q v s' | .ok _ => False | .error e => E e s') s := by
  k_extra "g"
  obtain ⟨pre, post, rfl, hg, h1, h2⟩ := hU.split
  k_extra "h"
  have key : ∀ o', (P2, o2) ∈ pre ++ (P, o) :: post ∧ ∀ o2', ∀ p ∈ g2 o' o2', p ∈ [(P, o'), (P2, o2')] ++ (pre ++ post).filter (fun p => p.1 ≠ P2) := fun o' => by
    k_extra "g"
    obtain ⟨pre2, post2, e, hg2, h3, h4⟩ := (hU2 o').split
    k_extra "h"
    rw [hg] at e
    have hm : (P2, o2) ∈ pre ++ (P, o') :: post := by rw [e]; simp
    constructor
    · simp only [List.mem_append, List.mem_cons] at hm ⊢
      k_extra "g"
      rcases hm with h | h | h <;> k_extra "h"
      · exact .inl h
      · exact absurd (congrArg Prod.fst h).symm hPP
      · exact .inr (.inr h)
    · intro o2' p hp
      rw [hg2] at hp
      simp only [List.mem_append, List.mem_cons, List.mem_filter, List.not_mem_nil, or_false]
      have old : ∀ p, p ∈ pre2 ∨ p ∈ post2 → p.1 ≠ P2 → (p = (P, o') ∨ p = (P2, o2')) ∨ (p ∈ pre ∨ p ∈ post) ∧ (decide (p.1 ≠ P2) = true) := fun p hp hn => by
        have hm : p ∈ pre ++ (P, o') :: post := by
          rw [e]; simp only [List.mem_append, List.mem_cons]
          exact hp.elim .inl fun h => .inr (.inr h)
        simp only [List.mem_append, List.mem_cons] at hm
        k_extra "g"
        rcases hm with h | h | h <;> k_extra "h"
        · exact .inr ⟨.inl h, decide_eq_true hn⟩
        · exact .inl (.inl h)
        · exact .inr ⟨.inr h, decide_eq_true hn⟩
      k_extra "g"
      rcases List.mem_append.mp hp with hp | hp <;> k_extra "h"
      · exact old p (.inl hp) (h3 p hp)
      · rcases List.mem_cons.mp hp with rfl | hp
        · exact .inl (.inr rfl)
        · exact old p (.inr hp) (h4 p hp)
  refine con_use (rest := (pre ++ post).filter (fun p => p.1 ≠ P2)) C hdp hu B F X N T hk hro (fun p hp => ?_) (fun p hp => ?_) (fun p hp q hq => ?_) fun r mu' nw h' tk' F' N' hR hn => ?_
  · rcases List.mem_cons.mp hp with rfl | hp
    · simp
    · rw [List.mem_singleton.mp hp]; exact (key o).1
  · have := (List.mem_filter.mp hp).1
    exact (List.mem_append.mp this).elim (fun h => List.mem_append.mpr (.inl h)) fun h => List.mem_append.mpr (.inr (.tail _ h))
  · obtain ⟨hp, hn⟩ := List.mem_filter.mp hp
    k_extra "g"
    rcases List.mem_cons.mp hq with rfl | hq <;> k_extra "h"
    · exact (List.mem_append.mp hp).elim (h1 p) (h2 p)
    · rw [List.mem_singleton.mp hq]; exact of_decide_eq_true hn
  · k_extra "g"
    obtain ⟨o', o2', rfl, rfl⟩ := hP _ _ _ hR
    k_extra "h"
    refine ret r o' o2' h' tk' F' (fun p hp => N' p ?_) hR
    have := (key o').2 o2' p hp
    simpa using this
variable {x : Str} {M d A S P q I : Addr} {h1 h2 h3 h4 : Int} {t1 t2 t3 t4 tw tl ti t : Tok} {ln : Int} {i n4 : Nat} {g : Obj → Led} {g2 : Obj → Obj → Led}
theorem rch_use {Q : Value → Shared → Prop} (C : RchCon prog w loose mean mg mb x M d A S P h1 h2 h3 h4 t1 t2 t3 t4 tw ro) (hi : i ≤ x.length) (hdp : dp ≤ 358) (hu : un ≤ 290) (B : Below A₀ base outer h₀) (F : Fr h₀ L s.heap m) (X : (kf.heap_1 w.params).In h₀) (N : News h₀ L s.heap big) (T : Top topProg loose mean mg mb h₀) (hk : cs.kind = .function)
    (hU : UpdF d (machDict h1 h2 h3 h4 t1 t2 t3 t4 ln tl S tw P) big g) (hU2 : ∀ o, UpdF A (W.listOf #[.int i ti] n4) (g o) (g2 o)) (hro : ∀ p ∈ ro, p ∈ big) (hPP : d ≠ A)
    (ret : ∀ t' tl' ti' n4' h' tk', Fr h₀ L h' m → News h₀ L h' (g2 (machDict h1 h2 h3 h4 t1 t2 t3 t4 (if cutAt x i = Str.ofString "\n" then ln + 1 else ln) tl' S tw P) (W.listOf #[.int ((i : Int) + ((cutAt x i).length : Int)) ti'] n4')) → Q (.str (cutAt x i) t') { s with heap := h', toks := tk' }) :
    codeAny (model prog w) (ktrTop dp un gd cn cs L a ccd cl outer) (.call (.ref 120) ⟨[.ref M], []⟩) (fun r s' => match r with | .ok (.ret v) => Q v s' | .ok _ => False | .error e => E e s') s := by
  refine con_use2 (C ln i tl ti n4 hi) hdp hu B F X N T hk hU hU2 hro hPP (fun r o' o2' h' tk' F' N' hR => ?_) fun r mu' nw hR => ?_
  · refine and_2 hR fun r1_ k_ => ex_4 k_ fun t' tl' ti' n4' k_ => and_2 k_ fun r2_ e => and_2 (two_eq e) fun r3_ r4_ => ?_
    repeat clear k_
    clear hR e
    subst r2_
    subst r3_
    subst r4_
    exact ret t' tl' ti' n4' h' tk' F' N'
  · refine and_2 hR fun r1_ k_ => ex_4 k_ fun t' tl' ti' n4' k_ => and_2 k_ fun _ e => ?_
    subst r1_
    exact ⟨_, _, e, rfl⟩
theorem cit_nextN {Q : Option Value → Shared → Prop} {oc : Value} {od : Option Addr} {fd : FuncData} {sl : Array (Option Value)} (C : RchCon prog w loose mean mg mb x M d A S P h1 h2 h3 h4 t1 t2 t3 t4 tw ro) (hi : i ≤ x.length) (hdp : dp ≤ 358) (hu : un + 1 ≤ 290) (B : Below A₀ base outer h₀) (F : Fr h₀ L s.heap m) (X : (kf.heap_1 w.params).In h₀) (N : News h₀ L s.heap big) (T : Top topProg loose mean mg mb h₀) (hk : cs.kind = .function)
    (hfn : (kf.heap_1 w.params).lookup 120 = some ⟨oc, od, .func fd, sl⟩)
    (hU : UpdF d (machDict h1 h2 h3 h4 t1 t2 t3 t4 ln tl S tw P) big g) (hU2 : ∀ o, UpdF A (W.listOf #[.int i ti] n4) (g o) (g2 o)) (hro : ∀ p ∈ ro, p ∈ big) (hPP : d ≠ A)
    (hI : (I, citObj q (Str.ofString "") t) ∈ big) (hI2 : ∀ o o2, (I, citObj q (Str.ofString "") t) ∈ g2 o o2) (hq : (q, methodObj (.ref 120) (.ref M)) ∈ big) (hq2 : ∀ o o2, (q, methodObj (.ref 120) (.ref M)) ∈ g2 o o2)
    (ret : cutAt x i ≠ Str.ofString "" → ∀ t' tl' ti' n4' h' tk', Fr h₀ L h' m → News h₀ L h' (g2 (machDict h1 h2 h3 h4 t1 t2 t3 t4 (if cutAt x i = Str.ofString "\n" then ln + 1 else ln) tl' S tw P) (W.listOf #[.int ((i : Int) + ((cutAt x i).length : Int)) ti'] n4')) → Q (some (.str (cutAt x i) t')) { s with heap := h', toks := tk' })
    (retE : cutAt x i = Str.ofString "" → ∀ tl' ti' n4' h' tk', Fr h₀ L h' m → News h₀ L h' ((g2 (machDict h1 h2 h3 h4 t1 t2 t3 t4 ln tl' S tw P) (W.listOf #[.int i ti'] n4')).filter (fun p => p.1 ≠ I)) → Q none { s with heap := h', toks := tk' }) :
    wpAny (model prog w) (ktrTop dp un gd cn cs L a ccd cl outer) (pyNext (.ref I)) Q E s := by
  refine cit_next (f := 120) (self := .ref M) rfl (N _ hI).1 (N _ hq).1 ⟨_, _, _, _, X.keeps F.keep _ _ hfn⟩ ?_
  show wpAny _ (ktrTop dp (un + 1) gd cn cs L a ccd cl outer) _ _ _ _
  refine wpAny_call (method_call (N _ hq).1 ?_)
  refine rch_use C hi hdp hu B F X N T hk hU hU2 hro hPP fun t' tl' ti' n4' h' tk' F' N' => ?_
  refine ⟨_, _, rfl, (N' _ (hI2 _ _)).1, (N' _ (hq2 _ _)).1, ⟨_, _, _, _, X.keeps F'.keep _ _ hfn⟩, fun e => ret e _ _ _ _ _ _ F' N', fun e h2' b2 => ?_⟩
  have e0 : (i : Int) + ((cutAt x i).length : Int) = i := by rw [e]; exact Int.add_zero _
  rw [e0, e, if_neg (by decide)] at N'
  have hne : ∀ p ∈ g2 (machDict h1 h2 h3 h4 t1 t2 t3 t4 ln tl' S tw P) (W.listOf #[.int i ti'] n4'), p.1 ≠ I → h2'.get? p.1 = some p.2 := fun p hp hn => b2 _ _ hn (N' p hp).1
  have hIN := N' _ (hI2 (machDict h1 h2 h3 h4 t1 t2 t3 t4 ln tl' S tw P) (W.listOf #[.int i ti'] n4'))
  refine retE e tl' ti' n4' h2' tk' ?_ ?_
  · k_extra "g"
    obtain ⟨oL, es, ep, hL, r⟩ := F'.ns
    k_extra "h"
    exact ⟨⟨oL, es, ep, b2 _ _ (Ne.symm hIN.2.1) hL, r⟩, fun b o q => b2 _ _ (fun z => by rw [z, hIN.2.2] at q; cases q) (F'.keep b o q), F'.above⟩
  · intro p hp
    k_extra "g"
    obtain ⟨hp, hn⟩ := List.mem_filter.mp hp
    k_extra "h"
    exact ⟨hne p hp (of_decide_eq_true hn), (N' p hp).2⟩
end
end
end
section
section
variable (prog : Program) (w : World) (loose : List Str) (mean : ExcName → Option Value) (mg mb : Str → Option Value)
section
variable {prog : Program} {w : World} {loose : List Str} {mean : ExcName → Option Value} {mg mb : Str → Option Value} {D U dp un f : Nat} {vs : List Value} {ro big : Led} {R : Value → Led → Led → Prop}
  {gd : Option (List Code)} {cn : Str} {cs : Scope} {a : Addr} {ccd : Value} {cl : List (Str × Addr)} {outer : List Env} {A₀ : Around} {base h₀ : Heap} {L : Addr} {m : Str → Option Value} {s : Shared} {E : Value → Shared → Prop}
variable {x : Str} {M d A S P q I : Addr} {h1 h2 h3 h4 : Int} {t1 t2 t3 t4 tw tl ti t : Tok} {ln : Int} {i n4 : Nat} {g : Obj → Led} {g2 : Obj → Obj → Led}
theorem cit_iterN {A : Around} {news : Led} {y : Str} {Q : Value → Shared → Prop} (N : News h₀ L s.heap news) (hI : (I, citObj q y t) ∈ news) (h : Q (.ref I) s) : wpAny (model prog w) A (pyIter (.ref I)) Q E s := cit_iter (N _ hI).1 h
theorem cit_nextS {Q : Option Value → Shared → Prop} {c : Str} {oc : Value} {od : Option Addr} {fd : FuncData} {sl : Array (Option Value)} (C : RchCon prog w loose mean mg mb x M d A S P h1 h2 h3 h4 t1 t2 t3 t4 tw ro) (hI : (I, citObj q (Str.ofString "") t) ∈ big) (hi : i ≤ x.length) (hdp : dp ≤ 358) (hu : un + 1 ≤ 290) (B : Below A₀ base outer h₀) (F : Fr h₀ L s.heap m) (X : (kf.heap_1 w.params).In h₀) (N : News h₀ L s.heap big) (T : Top topProg loose mean mg mb h₀) (hk : cs.kind = .function)
    (hfn : (kf.heap_1 w.params).lookup 120 = some ⟨oc, od, .func fd, sl⟩)
    (hU : UpdF d (machDict h1 h2 h3 h4 t1 t2 t3 t4 ln tl S tw P) big g) (hU2 : ∀ o, UpdF A (W.listOf #[.int i ti] n4) (g o) (g2 o)) (hc : cutAt x i = c) (hl : c.length = 1) (hro : ∀ p ∈ ro, p ∈ big) (hPP : @Ne Nat d A)
    (hI2 : ∀ o o2, (I, citObj q (Str.ofString "") t) ∈ g2 o o2) (hq : (q, methodObj (.ref 120) (.ref M)) ∈ big) (hq2 : ∀ o o2, (q, methodObj (.ref 120) (.ref M)) ∈ g2 o o2)
    (ret : ∀ t' tl' ti' n4' h' tk', Fr h₀ L h' m → News h₀ L h' (g2 (machDict h1 h2 h3 h4 t1 t2 t3 t4 (if c = Str.ofString "\n" then ln + 1 else ln) tl' S tw P) (W.listOf #[.int ((i + 1 : Nat) : Int) ti'] n4')) → Q (some (.str c t')) { s with heap := h', toks := tk' }) :
    wpAny (model prog w) (ktrTop dp un gd cn cs L a ccd cl outer) (pyNext (.ref I)) Q E s := by
  refine cit_nextN C hi hdp hu B F X N T hk hfn hU hU2 hro hPP hI hI2 hq hq2 (fun _ t' tl' ti' n4' h' tk' F' N' => ?_) fun e => ?_
  · rw [hc] at N' ⊢
    rw [hl] at N'
    exact ret t' tl' ti' n4' h' tk' F' N'
  · rw [hc] at e
    rw [e] at hl
    exact absurd hl (by decide)
theorem cit_nextE {Q : Option Value → Shared → Prop} {oc : Value} {od : Option Addr} {fd : FuncData} {sl : Array (Option Value)} {left : Obj → Obj → Led} (C : RchCon prog w loose mean mg mb x M d A S P h1 h2 h3 h4 t1 t2 t3 t4 tw ro) (hI : (I, citObj q (Str.ofString "") t) ∈ big) (hi : i ≤ x.length) (hdp : dp ≤ 358) (hu : un + 1 ≤ 290) (B : Below A₀ base outer h₀) (F : Fr h₀ L s.heap m) (X : (kf.heap_1 w.params).In h₀) (N : News h₀ L s.heap big) (T : Top topProg loose mean mg mb h₀) (hk : cs.kind = .function)
    (hfn : (kf.heap_1 w.params).lookup 120 = some ⟨oc, od, .func fd, sl⟩)
    (hU : UpdF d (machDict h1 h2 h3 h4 t1 t2 t3 t4 ln tl S tw P) big g) (hU2 : ∀ o, UpdF A (W.listOf #[.int i ti] n4) (g o) (g2 o)) (hc : cutAt x i = Str.ofString "") (hro : ∀ p ∈ ro, p ∈ big) (hPP : @Ne Nat d A)
    (hI2 : ∀ o o2, (I, citObj q (Str.ofString "") t) ∈ g2 o o2) (hq : (q, methodObj (.ref 120) (.ref M)) ∈ big) (hq2 : ∀ o o2, (q, methodObj (.ref 120) (.ref M)) ∈ g2 o o2)
    (hX : ∀ o o2, g2 o o2 = (I, citObj q (Str.ofString "") t) :: left o o2) (hXn : ∀ o o2, ∀ p ∈ left o o2, p.1 ≠ I)
    (ret : ∀ tl' ti' n4' h' tk', Fr h₀ L h' m → News h₀ L h' (left (machDict h1 h2 h3 h4 t1 t2 t3 t4 ln tl' S tw P) (W.listOf #[.int i ti'] n4')) → Q none { s with heap := h', toks := tk' }) :
    wpAny (model prog w) (ktrTop dp un gd cn cs L a ccd cl outer) (pyNext (.ref I)) Q E s := by
  refine cit_nextN C hi hdp hu B F X N T hk hfn hU hU2 hro hPP hI hI2 hq hq2 (fun e => ?_) fun _ tl' ti' n4' h' tk' F' N' => ret tl' ti' n4' h' tk' F' fun p hp => N' p ?_
  · exact absurd hc e
  · refine List.mem_filter.mpr ⟨?_, decide_eq_true (hXn _ _ p hp)⟩
    rw [hX]
    exact .tail _ hp
theorem rch_useS {Q : Value → Shared → Prop} {c : Str} (C : RchCon prog w loose mean mg mb x M d A S P h1 h2 h3 h4 t1 t2 t3 t4 tw ro) (hi : i ≤ x.length) (hdp : dp ≤ 358) (hu : un ≤ 290) (B : Below A₀ base outer h₀) (F : Fr h₀ L s.heap m) (X : (kf.heap_1 w.params).In h₀) (N : News h₀ L s.heap big) (T : Top topProg loose mean mg mb h₀) (hk : cs.kind = .function)
    (hU : UpdF d (machDict h1 h2 h3 h4 t1 t2 t3 t4 ln tl S tw P) big g) (hU2 : ∀ o, UpdF A (W.listOf #[.int i ti] n4) (g o) (g2 o)) (hc : cutAt x i = c) (hl : c.length = 1) (hro : ∀ p ∈ ro, p ∈ big) (hPP : @Ne Nat d A)
    (ret : ∀ t' tl' ti' n4' h' tk', Fr h₀ L h' m → News h₀ L h' (g2 (machDict h1 h2 h3 h4 t1 t2 t3 t4 (if c = Str.ofString "\n" then ln + 1 else ln) tl' S tw P) (W.listOf #[.int ((i + 1 : Nat) : Int) ti'] n4')) → Q (.str c t') { s with heap := h', toks := tk' }) :
    wpAny (model prog w) (ktrTop dp un gd cn cs L a ccd cl outer) (call (.ref 120) [.ref M]) Q E s := by
  refine wpAny_call <| rch_use C hi hdp hu B F X N T hk hU hU2 hro hPP fun t' tl' ti' n4' h' tk' F' N' => ?_
  rw [hc] at N' ⊢
  rw [hl] at N'
  exact ret t' tl' ti' n4' h' tk' F' N'
end
@[irreducible] def InW (x y : Str) (b : Bool) : Prop := (!(PySem.Builtin.Str.occurrences x y 0 x.length 1).isEmpty) = b
@[irreducible] def EqB (x y : Str) (b : Bool) : Prop := (x == y) = b
@[irreducible] def Hid (p : Prop) : Prop := p
theorem Hid.out {p : Prop} (h : Hid p) : p := by unfold Hid at h; exact h
theorem Hid.mk {p : Prop} (h : p) : Hid p := by unfold Hid; exact h
theorem inw_q : InW (Str.ofString "\n\t\x0d ") (Str.ofString "\"") false := by unfold InW; decide +kernel
theorem inw_b : InW (Str.ofString "\n\t\x0d ") (Str.ofString "\\") false := by unfold InW; decide +kernel
theorem eqb_qq : EqB (Str.ofString "\"") (Str.ofString "\"") true := by unfold EqB; decide +kernel
theorem eqb_bq : EqB (Str.ofString "\\") (Str.ofString "\"") false := by unfold EqB; decide +kernel
theorem eqb_bb : EqB (Str.ofString "\\") (Str.ofString "\\") true := by unfold EqB; decide +kernel
theorem len_q : (Str.ofString "\"").length = 1 := by decide +kernel
theorem len_b : (Str.ofString "\\").length = 1 := by decide +kernel
theorem in_fact {prog : Program} {w : World} {A : Around} {E : Value → Shared → Prop} {s : Shared} {y x : Str} {u t : Tok} {b : Bool} {Q : Value → Shared → Prop} (hb : InW x y b) (h : Q (.bool b) s) : wpAny (model prog w) A (compareOp .In (.str y u) (.str x t)) Q E s := by
  unfold InW at hb
  subst hb
  with_reducible exact PySem.P.in_str h
theorem eq_fact {prog : Program} {w : World} {A : Around} {E : Value → Shared → Prop} {s : Shared} {y x : Str} {u t : Tok} {b : Bool} {Q : Value → Shared → Prop} (hb : EqB x y b) (h : Q (.bool b) s) : wpAny (model prog w) A (compareOp .Eq (.str x t) (.str y u)) Q E s := by
  unfold EqB at hb
  subst hb
  with_reducible exact PyProof.Rows.eq_str h
end
end
section
section
variable (prog : Program) (w : World) (loose : List Str) (mean : ExcName → Option Value) (mg mb : Str → Option Value)
def Chain3 (a b c : Nat) : Prop := a < b ∧ b < c
section
variable {prog : Program} {w : World} {A : Around} {E : Value → Shared → Prop} {s : Shared} {h₀ : Heap} {L D : Addr} {m : Str → Option Value} {news : Led} {g : Obj → Led}
theorem upd_of {o o' : Obj} : ∀ {l : Led} {g : Obj → Led}, UpdF D o l g → Upd D o o' l (g o')
  | _, _, .head h => .head h
  | _, _, .tail h r => .tail h (upd_of r)
theorem append_A {vs : List Value} {n : Nat} {x : Value} {Q : Value → Shared → Prop} (F : Fr h₀ L s.heap m) (N : News h₀ L s.heap news) (U : UpdF D (W.listOf vs.toArray n) news g) (hsz : vs.length ≤ 1000)
    (h : ∀ h', Fr h₀ L h' m → News h₀ L h' (g (W.listOf (vs ++ [x]).toArray (n + 1))) → Q .none { s with heap := h' }) : wpAny (model prog w) A (call (.builtin "list.append") [.ref D, x]) Q E s := by
  refine append_K F N (upd_of U) (fun h' F' N' => h h' F' ?_) (by rw [PySem.sizeLine_eq, List.size_toArray]; omega)
  simpa using N'
theorem pop0_A {vs : List Value} {v : Value} {n : Nat} {u : Tok} {Q : Value → Shared → Prop} (F : Fr h₀ L s.heap m) (N : News h₀ L s.heap news) (U : UpdF D (W.listOf (v :: vs).toArray n) news g) (hsz : vs.length ≤ 1000)
    (h : ∀ h', Fr h₀ L h' m → News h₀ L h' (g (W.listOf vs.toArray (n + 1))) → Q v { s with heap := h' }) : wpAny (model prog w) A (call (.builtin "list.pop") [.ref D, .int 0 u]) Q E s := by
  refine kl_popAt (k := 0) (p := []) (q := vs) (y := v) F N rfl ?_ ?_ (upd_of U) ?_ h
  · rw [List.size_toArray, List.length_cons]
    unfold seqIndex?
    simp <;> omega
  · rfl
  · rw [PySem.sizeLine_eq]
    show (v :: vs).length ≤ _
    rw [List.length_cons]
    omega
theorem truthy_cons {vs : List Value} {v : Value} {n : Nat} {Q : Bool → Shared → Prop} (N : News h₀ L s.heap news) (hm : (D, W.listOf (v :: vs).toArray n) ∈ news) (hsz : vs.length ≤ 1000) (h : Q true { s with toks := s.toks + 1 + 1 }) : wpAny (model prog w) A (truthy (.ref D)) Q E s :=
  kgr_truthy N hm rfl rfl (by rw [List.length_cons]; omega) h
end
end
end
section
theorem L_T_X1.ln9_T_X1 : True := trivial
open L_T_X1
section
variable (prog : Program) (w : World) (loose : List Str) (mean : ExcName → Option Value) (mg mb : Str → Option Value)
theorem kw9_X1_1 : True := by
  (k_with "lT_X1" => fail_if_success (fail_if_success (have h9 := ln9_T_X1)))
  (k_with "omega" => (k_extra "lT_X1"; first | (with_reducible assumption) | lia | omega +splitDisjunctions))
  trivial
section
variable {prog : Program} {w : World} {A : Around} {E : Value → Shared → Prop} {s : Shared} {h₀ : Heap} {L l : Addr} {m : Str → Option Value} {news : Led} {g : Obj → Led}
@[irreducible] def IEq (a b : Int) : Prop := a = b
theorem IEq.out {a b : Int} (h : IEq a b) : a = b := by unfold IEq at h; exact h
theorem IEq.mk {a b : Int} (h : a = b) : IEq a b := by unfold IEq; exact h
theorem mul_zero_A {x : Int} {k n : Nat} {v : Value} {u : Tok} {Q : Value → Shared → Prop} (F : Fr h₀ L s.heap m) (N : News h₀ L s.heap news) (hl : (l, W.listOf #[v] n) ∈ news) (hx : IEq x (k : Int)) (hk : k ≤ 20)
    (h : ∀ D h', Fr h₀ L h' m → News h₀ L h' ((D, W.listOf (List.replicate k v).toArray 0) :: news) → (∀ p ∈ news, p.1 < D) → Q (.ref D) { s with heap := h' }) : wpAny (model prog w) A (binaryOp .Mult (.ref l) (.int x u)) Q E s := by
  have e := hx.out
  subst e
  refine KMa.mul (vs := [v]) F N ⟨_, (N _ hl).1, rfl, _, rfl⟩ (by omega) (by omega) (by simp; omega) ?_ h
  simp
theorem get_A {vs : List Value} {n : Nat} {i : Int} {k : Nat} {u : Tok} {v : Value} {Q : Value → Shared → Prop} {value slice : PySem.Expr} (N : News h₀ L s.heap news) (hl : (l, W.listOf vs.toArray n) ∈ news) (hi : i = (k : Int)) (hk : k ≤ 100) (hv : vs[k]? = some v) (h : Q v s)
    (hs : subscripted slice false (.ref l) (.int i u) = operate [.ref l, .int i u] (getItem (.ref l) (.int i u)) := by with_unfolding_all rfl) : wpAny (model prog w) A (subscriptTail value slice (.ref l) (.int i u)) Q E s := by
  subst hi
  exact tail_any (show s.TypeIs (.ref l) "list" from ⟨_, (N _ hl).1, rfl⟩) slot_list_getitem.lookup (wpAny_getItem_list (items := vs.toArray) ⟨_, (N _ hl).1, rfl, _, rfl⟩ (by omega) (by omega) (by simpa using hv) h) hs
theorem ki_setL_set {v : Value} : ∀ {vs : List Value} {k : Nat}, k < vs.length → ki_setL vs k v = some (vs.set k v)
  | [], _, h => by simp at h
  | x :: r, 0, _ => rfl
  | x :: r, k + 1, h => by
    have := ki_setL_set (v := v) (vs := r) (k := k) (by simpa using h)
    simp [ki_setL, this]
theorem set_A {vs : List Value} {n : Nat} {i : Int} {k : Nat} {u : Tok} {v : Value} {Q : Unit → Shared → Prop} (F : Fr h₀ L s.heap m) (N : News h₀ L s.heap news) (U : UpdF l (W.listOf vs.toArray n) news g) (hi : i = (k : Int)) (hk : k < vs.length) (hk2 : k ≤ 100)
    (h : ∀ h', Fr h₀ L h' m → News h₀ L h' (g (W.listOf (vs.set k v).toArray n)) → Q () { s with heap := h' }) : wpAny (model prog w) A (setItem (.ref l) (.int i u) v) Q E s := by
  subst hi
  exact ki_set F N (by omega) (by omega) (ki_setL_set (vs := vs) (k := k) hk) (upd_of U) h
theorem len_A {vs : List Value} {n k : Nat} {Q : Value → Shared → Prop} (N : News h₀ L s.heap news) (hl : (l, W.listOf vs.toArray n) ∈ news) (hk : vs.length = k) (hk2 : k ≤ 1000)
    (h : ∀ t' k', Q (.int (k : Int) t') { s with toks := k' }) : wpAny (model prog w) A (call (.builtin "len") [.ref l]) Q E s := by
  subst hk
  exact PySem.Calls.call_len_list (items := vs.toArray) ⟨_, (N _ hl).1, rfl, _, rfl⟩ (by rw [List.size_toArray]; omega) (by rw [List.size_toArray]; exact h _ _)
end
noncomputable def digs (n x : Int) : Nat → List Int
  | 0 => []
  | 1 => [x]
  | k + 2 => x % 2 ^ n.toNat :: digs n (x / 2 ^ n.toNat) (k + 1)
noncomputable def putAt (ns : List Int) (L : Nat) (ds : List Int) : List Int := ns.take L ++ ds ++ ns.drop (L + ds.length)
theorem digs_length (n : Int) : ∀ (k : Nat) (x : Int), (digs n x k).length = k
  | 0, _ => rfl
  | 1, _ => rfl
  | k + 2, x => by simp only [digs, List.length_cons, digs_length n (k + 1)]
theorem putAt_length {ns ds : List Int} {L : Nat} (h : L + ds.length ≤ ns.length) : (putAt ns L ds).length = ns.length := by
  unfold putAt
  simp only [List.length_append, List.length_take, List.length_drop]
  omega
def I2D (prog : Program) (w : World) (loose : List Str) (mean : ExcName → Option Value) (mg mb : Str → Option Value) (f D : Addr) (ro : Led) (n : Int) (dp un len : Nat) : Prop :=
  ∀ (vs : List Value) (ns : List Int) (c : Nat) (x i j : Int) (t u v : Tok), IntsAre vs ns → 0 ≤ i → i < j → j ≤ vs.length → vs.length ≤ 20 → j ≤ i + len → 0 ≤ x → x < 2 ^ 20 →
    Con prog w loose mean mg mb dp un f [.int x t, .int i u, .int j v] ro [(D, W.listOf vs.toArray c)] (fun r mu' nw => nw = [] ∧ ∃ vs' c', mu' = [(D, W.listOf vs'.toArray c')] ∧ IntsAre vs' (putAt ns i.toNat (digs n x (j - i).toNat)))
section
variable {prog : Program} {w : World} {loose : List Str} {mean : ExcName → Option Value} {mg mb : Str → Option Value} {D U dp un f : Nat} {big ro : Led} {g : Obj → Led}
  {gd : Option (List Code)} {cn : Str} {cs : Scope} {a : Addr} {ccd : Value} {cl : List (Str × Addr)} {outer : List Env} {A₀ : Around} {base h₀ : Heap} {L : Addr} {m : Str → Option Value} {s : Shared} {Q E : Value → Shared → Prop} {vs : List Value} {ns : List Int} {c len : Nat} {n x i j : Int} {t u v : Tok}
theorem i2d_use (C : I2D prog w loose mean mg mb f D ro n dp un len) {dq uq : Nat} (hi : IntsAre vs ns) (h1 : 0 ≤ i) (h2 : i < j) (h3 : j ≤ vs.length) (h4 : vs.length ≤ 20) (h5 : j ≤ i + len) (h6 : 0 ≤ x) (h7 : x < 2 ^ 20)
    (hm : (D, W.listOf vs.toArray c) ∈ big) (hU : UpdF D (W.listOf vs.toArray c) big g) (hro : ∀ p ∈ ro, p ∈ big) (hdp : dq ≤ dp) (hu : uq ≤ un) (B : Below A₀ base outer h₀) (F : Fr h₀ L s.heap m) (X : (kf.heap_1 w.params).In h₀) (N : News h₀ L s.heap big) (T : Top topProg loose mean mg mb h₀) (hk : cs.kind = .function)
    (ret : ∀ r vs' c' h' tk', IntsAre vs' (putAt ns i.toNat (digs n x (j - i).toNat)) → vs'.length = vs.length → Fr h₀ L h' m → News h₀ L h' (g (W.listOf vs'.toArray c')) → Q r { s with heap := h', toks := tk' }) :
    wpAny (model prog w) (ktrTop dq uq gd cn cs L a ccd cl outer) (call (.ref f) [.int x t, .int i u, .int j v]) Q E s := by
  refine wpAny_call <| con_use1 (C vs ns c x i j t u v hi h1 h2 h3 h4 h5 h6 h7) hdp hu B F X N T hk hU hro (fun r o' more nw h' tk' F' N' hR hn => ?_) fun r mu' nw hR => ?_
  · k_extra "g"
    obtain ⟨rfl, vs', c', e, hv⟩ := hR
    k_extra "h"
    k_extra "g"
    obtain ⟨rfl, rfl⟩ := one_eq e
    k_extra "h"
    refine ret r vs' c' h' tk' hv ?_ F' N'
    have l1 := hv.length
    have l2 := hi.length
    rw [putAt_length (by rw [digs_length]; omega)] at l1
    omega
  · k_extra "g"
    obtain ⟨rfl, vs', c', e, hv⟩ := hR
    k_extra "h"
    exact ⟨_, _, e⟩
end
theorem i2d_lv {prog : Program} {w : World} {loose : List Str} {mean : ExcName → Option Value} {mg mb : Str → Option Value} {f D : Addr} {ro : Led} {n : Int}
    (h0 : I2D prog w loose mean mg mb f D ro n 366 350 1) (h : ∀ e d u l, e ≤ 2 → d = 366 - 2 * e → u = 350 - 10 * e → l ≤ 4 → I2D prog w loose mean mg mb f D ro n d u l → I2D prog w loose mean mg mb f D ro n (d - 2) (u - 10) (2 * l)) : I2D prog w loose mean mg mb f D ro n 360 320 8 := by
  have h1 := h 0 366 350 1 (by omega) rfl rfl (by omega) h0
  have h2 := h 1 364 340 2 (by omega) rfl rfl (by omega) h1
  exact h 2 362 330 4 (by omega) rfl rfl (by omega) h2
theorem ints_rep {k : Nat} {v : Value} {t : Tok} (h : v = .int 0 t) : IntsAre (List.replicate k v) (List.replicate k 0) := by
  subst h
  induction k with
  | zero => exact .nil
  | succ k ih => exact .cons _ _ ih
theorem ints_set {vs : List Value} {ns : List Int} {y : Int} {t : Tok} (h : IntsAre vs ns) : ∀ (k : Nat), k < vs.length → IntsAre (vs.set k (.int y t)) (putAt ns k [y]) := by
  induction h with
  | nil => intro k hk; simp at hk
  | cons z tz r ih =>
    intro k hk
    cases k with
    | zero => simpa [putAt] using IntsAre.cons y t r
    | succ k =>
      have := ih k (by simpa using hk)
      simpa [putAt] using IntsAre.cons z tz this
end
end
section
section
variable (prog : Program) (w : World) (loose : List Str) (mean : ExcName → Option Value) (mg mb : Str → Option Value)
theorem nat_and_high (y k : Nat) : y &&& (y / 2 ^ k * 2 ^ k) = y / 2 ^ k * 2 ^ k := by
  apply Nat.eq_of_testBit_eq
  intro i
  rw [Nat.testBit_and, Nat.testBit_mul_two_pow]
  by_cases h : k ≤ i
  · simp [h, Nat.testBit_div_two_pow]
  · simp [h]
theorem mid_eq {i j : Int} (hi : 0 ≤ i) (hj : 0 ≤ j) : (i + j).fdiv (2 ^ Int.toNat 1) = (i + j) / 2 := by
  show (i + j).fdiv 2 = _
  exact Int.fdiv_eq_ediv_of_nonneg _ (by omega)
theorem xor_low {y : Int} (k : Nat) (hy : 0 ≤ y) : PySem.Builtin.bitXor y (Int.fdiv y (2 ^ k) * 2 ^ k) = y % 2 ^ k ∧ 0 ≤ y % 2 ^ k ∧ y % 2 ^ k ≤ y ∧ Int.fdiv y (2 ^ k) = y / 2 ^ k ∧ 0 ≤ y / 2 ^ k ∧ y / 2 ^ k ≤ y := by
  k_extra "g"
  obtain ⟨m, rfl⟩ := Int.eq_ofNat_of_zero_le hy
  k_extra "h"
  have e1 : ((2 : Int) ^ k) = ((2 ^ k : Nat) : Int) := by simp
  generalize hK : (2 : Int) ^ k = K at *
  have hp : 0 < 2 ^ k := Nat.two_pow_pos k
  subst e1
  have e2 : Int.fdiv (m : Int) ((2 ^ k : Nat) : Int) = ((m / 2 ^ k : Nat) : Int) := by
    rw [Int.fdiv_eq_ediv_of_nonneg _ (by omega)]
    rfl
  have e3 : (m : Int) % ((2 ^ k : Nat) : Int) = ((m % 2 ^ k : Nat) : Int) := rfl
  have e4 : (m : Int) / ((2 ^ k : Nat) : Int) = ((m / 2 ^ k : Nat) : Int) := rfl
  have b1 := Nat.mod_le m (2 ^ k)
  have b2 := Nat.div_le_self m (2 ^ k)
  rw [e2, e3, e4]
  have b3 := Nat.div_add_mod' m (2 ^ k)
  refine ⟨?_, Int.natCast_nonneg _, Int.ofNat_le.mpr b1, rfl, Int.natCast_nonneg _, Int.ofNat_le.mpr b2⟩
  rw [← Int.natCast_mul, bitXor_and]
  have e5 : PySem.Builtin.bitAnd (m : Int) ((m / 2 ^ k * 2 ^ k : Nat) : Int) = ((m / 2 ^ k * 2 ^ k : Nat) : Int) := by
    show ((m &&& (m / 2 ^ k * 2 ^ k) : Nat) : Int) = _
    rw [nat_and_high]
  rw [e5]
  generalize m / 2 ^ k * 2 ^ k = hh at *
  generalize m % 2 ^ k = ll at *
  omega
end
end
section
theorem L_T_X3.ln9_T_X3 : True := trivial
open L_T_X3
section
variable (prog : Program) (w : World) (loose : List Str) (mean : ExcName → Option Value) (mg mb : Str → Option Value)
theorem kw9_X3_1 : True := by
  (k_with "lT_X3" => fail_if_success (fail_if_success (have h9 := ln9_T_X3)))
  (k_with "omega" => (k_extra "lT_X3"; first | (with_reducible assumption) | lia | omega +splitDisjunctions))
  trivial
theorem digs_two (n x : Int) (k : Nat) : digs n x (k + 2) = x % 2 ^ n.toNat :: digs n (x / 2 ^ n.toNat) (k + 1) := rfl
theorem digs_split (n : Int) (N : Nat) (hN : n.toNat = N) (q : Nat) : ∀ (p y : Nat), digs n (y : Int) (p + 1 + (q + 1)) = digs n ((y % 2 ^ ((p + 1) * N) : Nat) : Int) (p + 1) ++ digs n ((y / 2 ^ ((p + 1) * N) : Nat) : Int) (q + 1)
  | 0, y => by
    rw [show 0 + 1 + (q + 1) = q + 2 by omega, digs_two n _ q, hN, Nat.zero_add, Nat.one_mul]
    have e1 : ((2 : Int) ^ N) = ((2 ^ N : Nat) : Int) := by simp
    rw [e1]
    rfl
  | p + 1, y => by
    have ih := digs_split n N hN q p (y / 2 ^ N)
    rw [show p + 1 + 1 + (q + 1) = (p + (q + 1)) + 2 by omega, digs_two n _ (p + (q + 1)), hN]
    have e1 : ((2 : Int) ^ N) = ((2 ^ N : Nat) : Int) := by simp
    have a1 : ((y : Int) / 2 ^ N) = ((y / 2 ^ N : Nat) : Int) := by rw [e1]; rfl
    have a2 : ((y : Int) % 2 ^ N) = ((y % 2 ^ N : Nat) : Int) := by rw [e1]; rfl
    rw [a1, a2, show p + (q + 1) + 1 = p + 1 + (q + 1) by omega, ih, digs_two n _ p, hN]
    have p1 : 2 ^ ((p + 1 + 1) * N) = 2 ^ N * 2 ^ ((p + 1) * N) := by rw [← Nat.pow_add]; congr 1; rw [Nat.succ_mul (p + 1) N]; omega
    generalize 2 ^ ((p + 1) * N) = B at *
    have a3 : (((y % 2 ^ ((p + 1 + 1) * N) : Nat) : Int) / 2 ^ N) = ((y / 2 ^ N % B : Nat) : Int) := by
      rw [e1, p1]
      show ((y % (2 ^ N * B) / 2 ^ N : Nat) : Int) = _
      rw [Nat.mod_mul_right_div_self]
    have a4 : (((y % 2 ^ ((p + 1 + 1) * N) : Nat) : Int) % 2 ^ N) = ((y % 2 ^ N : Nat) : Int) := by
      rw [e1, p1]
      show ((y % (2 ^ N * B) % 2 ^ N : Nat) : Int) = _
      rw [Nat.mod_mul_right_mod]
    rw [a3, a4, p1, ← Nat.div_div_eq_div_mul]
    rfl
theorem putAt_two {ns d1 d2 : List Int} {i : Nat} (h : i + d1.length ≤ ns.length) : putAt (putAt ns i d1) (i + d1.length) d2 = putAt ns i (d1 ++ d2) := by
  unfold putAt
  have e0 : (ns.take i).length = i := by rw [List.length_take]; omega
  have e1 : (ns.take i ++ d1).length = i + d1.length := by rw [List.length_append, e0]
  rw [List.take_append_of_le_length (by rw [e1]; exact Nat.le_refl _), List.take_of_length_le (by rw [e1]; exact Nat.le_refl _)]
  rw [List.drop_append, e1, List.drop_of_length_le (by rw [e1]; omega), List.drop_drop]
  simp only [List.append_assoc, List.nil_append, List.length_append]
  congr 4
  omega
theorem two_halves {ns : List Int} {n y i j m : Int} (hi : 0 ≤ i) (him : i < m) (hmj : m < j) (hj : j ≤ ns.length) (hn : 0 ≤ n) (hy : 0 ≤ y) :
    putAt (putAt ns i.toNat (digs n (y % 2 ^ ((m - i) * n).toNat) (m - i).toNat)) m.toNat (digs n (y / 2 ^ ((m - i) * n).toNat) (j - m).toNat) = putAt ns i.toNat (digs n y (j - i).toNat) := by
  k_extra "g"
  obtain ⟨a, rfl⟩ := Int.eq_ofNat_of_zero_le hi
  obtain ⟨Y, rfl⟩ := Int.eq_ofNat_of_zero_le hy
  obtain ⟨N, rfl⟩ := Int.eq_ofNat_of_zero_le hn
  obtain ⟨p, hp⟩ : ∃ p : Nat, m = a + (p + 1 : Nat) := ⟨(m - a - 1).toNat, by omega⟩
  obtain ⟨q, hq⟩ : ∃ q : Nat, j = m + (q + 1 : Nat) := ⟨(j - m - 1).toNat, by omega⟩
  k_extra "h"
  subst hq
  subst hp
  have e1 : ((a : Int) + (p + 1 : Nat) - a).toNat = p + 1 := by omega
  have e2 : ((a : Int) + (p + 1 : Nat) + (q + 1 : Nat) - (a + (p + 1 : Nat))).toNat = q + 1 := by omega
  have e3 : ((a : Int) + (p + 1 : Nat) + (q + 1 : Nat) - a).toNat = p + 1 + (q + 1) := by omega
  have e4 : (((a : Int) + (p + 1 : Nat) - a) * (N : Int)).toNat = (p + 1) * N := by
    rw [show (a : Int) + (p + 1 : Nat) - a = (p + 1 : Nat) by omega, ← Int.natCast_mul, Int.toNat_natCast]
  have e5 : ((a : Int) + (p + 1 : Nat)).toNat = a + (p + 1) := by omega
  rw [e1, e2, e3, e4, e5, Int.toNat_natCast, digs_split (N : Int) N (Int.toNat_natCast N)]
  have e6 : ((2 : Int) ^ ((p + 1) * N)) = ((2 ^ ((p + 1) * N) : Nat) : Int) := by simp
  rw [e6]
  have l : (digs (N : Int) ((Y % 2 ^ ((p + 1) * N) : Nat) : Int) (p + 1)).length = p + 1 := digs_length _ _ _
  have z := putAt_two (ns := ns) (d1 := digs (N : Int) ((Y % 2 ^ ((p + 1) * N) : Nat) : Int) (p + 1)) (d2 := digs (N : Int) ((Y / 2 ^ ((p + 1) * N) : Nat) : Int) (q + 1)) (i := a) (by rw [l]; omega)
  rw [l] at z
  exact z
end
end
section
section
variable (prog : Program) (w : World) (loose : List Str) (mean : ExcName → Option Value) (mg mb : Str → Option Value)
def ConD (prog : Program) (w : World) (loose : List Str) (mean : ExcName → Option Value) (mg mb : Str → Option Value) (dp un : Nat) (f : Addr) (vs : List Value) (ro mu : Led) (R : Value → Led → Led → Prop) : Prop :=
  ∀ (gd : Option (List Code)) (cn : Str) (cs : Scope) (a : Addr) (ccd : Value) (cl : List (Str × Addr)) (outer : List Env) (A₀ : Around) (base h₀ : Heap) (L : Addr) (m : Str → Option Value) (s : Shared) (Q E : Value → Shared → Prop),
    Below A₀ base outer h₀ → Fr h₀ L s.heap m → (kf.heap_1 w.params).In h₀ → News h₀ L s.heap (ro ++ mu) → Top topProg loose mean mg mb h₀ → cs.kind = .function →
    (∀ r mu' nw h' tk' dr', Fr h₀ L h' m → News h₀ L h' (nw ++ (ro ++ mu')) → (∀ b o, s.heap.get? b = some o → b ∉ adr mu → h'.get? b = some o) → (∀ p ∈ nw, s.heap.get? p.1 = none) → R r mu' nw → Q r { s with heap := h', toks := tk', drawn := dr' }) →
    codeAny (model prog w) (ktrTop dp un gd cn cs L a ccd cl outer) (.call (.ref f) ⟨vs, []⟩) (fun r s' => match r with | .ok (.ret v) => Q v s' | .ok _ => False | .error e => E e s') s
section
variable {prog : Program} {w : World} {loose : List Str} {mean : ExcName → Option Value} {mg mb : Str → Option Value} {D U dp un f : Nat} {vs : List Value} {ro mu big rest : Led} {R : Value → Led → Led → Prop}
  {gd : Option (List Code)} {cn : Str} {cs : Scope} {a : Addr} {ccd : Value} {cl : List (Str × Addr)} {outer : List Env} {A₀ : Around} {base h₀ : Heap} {L : Addr} {m : Str → Option Value} {s : Shared} {Q E : Value → Shared → Prop}
theorem conD_use (C : ConD prog w loose mean mg mb D U f vs ro mu R) (hdp : dp ≤ D) (hu : un ≤ U) (B : Below A₀ base outer h₀) (F : Fr h₀ L s.heap m) (X : (kf.heap_1 w.params).In h₀) (N : News h₀ L s.heap big) (T : Top topProg loose mean mg mb h₀) (hk : cs.kind = .function)
    (hro : ∀ p ∈ ro, p ∈ big) (hmu : ∀ p ∈ mu, p ∈ big) (hrest : ∀ p ∈ rest, p ∈ big) (hoff : ∀ p ∈ rest, ∀ q ∈ mu, p.1 ≠ q.1)
    (ret : ∀ r mu' nw h' tk' dr', Fr h₀ L h' m → News h₀ L h' (nw ++ (mu' ++ rest)) → R r mu' nw → NwNe big nw → Q r { s with heap := h', toks := tk', drawn := dr' }) :
    codeAny (model prog w) (ktrTop dp un gd cn cs L a ccd cl outer) (.call (.ref f) ⟨vs, []⟩) (fun r s' => match r with | .ok (.ret v) => Q v s' | .ok _ => False | .error e => E e s') s := by
  have N1 : News h₀ L s.heap (ro ++ mu) := fun p hp => N p ((List.mem_append.mp hp).elim (hro p) (hmu p))
  refine codeAny_less (A := ktrTop D U gd cn cs L a ccd cl outer) (C gd cn cs a ccd cl outer A₀ base h₀ L m s Q E B F X N1 T hk fun r mu' nw h' tk' dr' F' N' k fr hR => ?_) hdp hu
  refine ret r mu' nw h' tk' dr' F' (fun p hp => ?_) hR (nwNe_of fun p hp q hq e => ?_)
  · rcases List.mem_append.mp hp with hp | hp
    · exact N' p (List.mem_append.mpr (.inl hp))
    · rcases List.mem_append.mp hp with hp | hp
      · exact N' p (List.mem_append.mpr (.inr (List.mem_append.mpr (.inr hp))))
      · have n := N p (hrest p hp)
        refine ⟨k _ _ n.1 fun hm => ?_, n.2⟩
        k_extra "g"
        obtain ⟨q, hq, e⟩ := List.mem_map.mp hm
        k_extra "h"
        exact hoff p hp q hq e.symm
  · have h1 := fr p hp
    rw [← e, (N q hq).1] at h1
    cases h1
theorem leaveD_my {g : Heap} {L' : Addr} {m' : Str → Option Value} {v : Value} {s' : Shared} {fin mu' nw : Led}
    (hret : ∀ r mu' nw h' tk' dr', Fr h₀ L h' m → News h₀ L h' (nw ++ (ro ++ mu')) → (∀ b o, s.heap.get? b = some o → b ∉ adr mu → h'.get? b = some o) → (∀ p ∈ nw, s.heap.get? p.1 = none) → R r mu' nw → Q r { s with heap := h', toks := tk', drawn := dr' })
    (N : News h₀ L s.heap (ro ++ mu))
    (kG : ∀ b o, s.heap.get? b = some o → b ∉ adr (ro ++ mu) → g.get? b = some o) (F' : Fr g L' s'.heap m') (N' : News g L' s'.heap fin) (hs : s' = { s with heap := s'.heap, toks := s'.toks, drawn := s'.drawn })
    (hR : R v mu' nw) (h1 : ∀ p ∈ ro, p ∈ fin) (h2 : ∀ p ∈ mu', p ∈ fin) (h3 : ∀ p ∈ nw, p ∈ fin) (h4 : ∀ p ∈ nw, ∀ q ∈ ro ++ mu, q.1 ≠ p.1) :
    LeaveK h₀ L m g (fun r s' => match r with | .ok (.ret v) => Q v s' | .ok _ => False | .error e => E e s') v s' := by
  have hsub : ∀ p ∈ nw ++ (ro ++ mu'), p ∈ fin := fun p hp => (List.mem_append.mp hp).elim (h3 p) fun hp => (List.mem_append.mp hp).elim (h1 p) (h2 p)
  refine leaveK_ F' (fun p hp => N' p (hsub p hp)) fun F2 N2 => ?_
  have k2 : ∀ b o, s.heap.get? b = some o → b ∉ adr mu → s'.heap.get? b = some o := fun b o e nb => by
    by_cases hb : b ∈ adr ro
    · obtain ⟨q, hq, rfl⟩ := List.mem_map.mp hb
      have e1 := (N q (List.mem_append.mpr (.inl hq))).1
      rw [e] at e1
      cases e1
      exact (N' q (h1 q hq)).1
    · exact F'.keep b o (kG b o e fun hm => by
        simp only [adr, List.map_append] at hm
        exact (List.mem_append.mp hm).elim hb nb)
  have fr : ∀ p ∈ nw, s.heap.get? p.1 = none := fun p hp => by
    cases e : s.heap.get? p.1 with
    | none => rfl
    | some o =>
      have e1 := kG _ _ e fun hm => by
        k_extra "g"
        obtain ⟨q, hq, e2⟩ := List.mem_map.mp hm
        k_extra "h"
        exact h4 p hp q hq e2
      rw [(N' p (h3 p hp)).2.2] at e1
      cases e1
  have fin := hret v mu' nw s'.heap s'.toks s'.drawn F2 N2 k2 fr hR
  rw [← hs] at fin
  exact fin
theorem leaveD_end {g : Heap} {L' : Addr} {m' : Str → Option Value} {v : Value} {s' : Shared} {fin : Led}
    (hret : ∀ r mu' nw h' tk' dr', Fr h₀ L h' m → News h₀ L h' (nw ++ (ro ++ mu')) → (∀ b o, s.heap.get? b = some o → b ∉ adr mu → h'.get? b = some o) → (∀ p ∈ nw, s.heap.get? p.1 = none) → R r mu' nw → Q r { s with heap := h', toks := tk', drawn := dr' })
    (N : News h₀ L s.heap (ro ++ mu))
    (kG : ∀ b o, s.heap.get? b = some o → b ∉ adr (ro ++ mu) → g.get? b = some o) (F' : Fr g L' s'.heap m') (N' : News g L' s'.heap fin) (hs : s' = { s with heap := s'.heap, toks := s'.toks, drawn := s'.drawn })
    (h : MyEnd R v fin ro mu) :
    LeaveK h₀ L m g (fun r s' => match r with | .ok (.ret v) => Q v s' | .ok _ => False | .error e => E e s') v s' := by
  k_extra "g"
  obtain ⟨mu', nw, hR, h1, h2, h3, h4⟩ := h
  k_extra "h"
  exact leaveD_my hret N kG F' N' hs hR h1 h2 h3 h4
theorem conD_use0 (C : ConD prog w loose mean mg mb D U f vs ro [] R) (hdp : dp ≤ D) (hu : un ≤ U) (B : Below A₀ base outer h₀) (F : Fr h₀ L s.heap m) (X : (kf.heap_1 w.params).In h₀) (N : News h₀ L s.heap big) (T : Top topProg loose mean mg mb h₀) (hk : cs.kind = .function)
    (hro : ∀ p ∈ ro, p ∈ big)
    (ret : ∀ r mu' nw h' tk' dr', Fr h₀ L h' m → News h₀ L h' (nw ++ big) → R r mu' nw → NwNe big nw → Q r { s with heap := h', toks := tk', drawn := dr' }) :
    codeAny (model prog w) (ktrTop dp un gd cn cs L a ccd cl outer) (.call (.ref f) ⟨vs, []⟩) (fun r s' => match r with | .ok (.ret v) => Q v s' | .ok _ => False | .error e => E e s') s :=
  conD_use (rest := big) C hdp hu B F X N T hk hro (fun _ h => nomatch h) (fun _ h => h) (fun _ _ _ h => nomatch h) fun r mu' nw h' tk' dr' F' N' hR hn => ret r mu' nw h' tk' dr' F' (fun p hp => N' p ((List.mem_append.mp hp).elim (fun h => List.mem_append.mpr (.inl h)) fun h => List.mem_append.mpr (.inr (List.mem_append.mpr (.inr h))))) hR hn
theorem conD_use1 {P : Addr} {o : Obj} {g : Obj → Led} (C : ConD prog w loose mean mg mb D U f vs ro [(P, o)] R) (hdp : dp ≤ D) (hu : un ≤ U) (B : Below A₀ base outer h₀) (F : Fr h₀ L s.heap m) (X : (kf.heap_1 w.params).In h₀) (N : News h₀ L s.heap big) (T : Top topProg loose mean mg mb h₀) (hk : cs.kind = .function)
    (hU : UpdF P o big g) (hro : ∀ p ∈ ro, p ∈ big)
    (ret : ∀ r o' more nw h' tk' dr', Fr h₀ L h' m → News h₀ L h' (nw ++ (more ++ g o')) → R r ((P, o') :: more) nw → NwNe big nw → Q r { s with heap := h', toks := tk', drawn := dr' })
    (hP : ∀ r mu' nw, R r mu' nw → ∃ o' more, mu' = (P, o') :: more) :
    codeAny (model prog w) (ktrTop dp un gd cn cs L a ccd cl outer) (.call (.ref f) ⟨vs, []⟩) (fun r s' => match r with | .ok (.ret v) => Q v s' | .ok _ => False | .error e => E e s') s := by
  k_extra "g"
  obtain ⟨pre, post, rfl, hg, h1, h2⟩ := hU.split
  k_extra "h"
  refine conD_use (rest := pre ++ post) C hdp hu B F X N T hk hro (fun p hp => ?_) (fun p hp => ?_) (fun p hp q hq => ?_) fun r mu' nw h' tk' dr' F' N' hR hn => ?_
  · rw [List.mem_singleton.mp hp]; exact List.mem_append.mpr (.inr (.head _))
  · exact (List.mem_append.mp hp).elim (fun h => List.mem_append.mpr (.inl h)) fun h => List.mem_append.mpr (.inr (.tail _ h))
  · rw [List.mem_singleton.mp hq]; exact (List.mem_append.mp hp).elim (h1 p) (h2 p)
  · obtain ⟨o', more, rfl⟩ := hP _ _ _ hR
    refine ret r o' more nw h' tk' dr' F' (fun p hp => N' p ?_) hR hn
    rw [hg] at hp
    simp only [List.mem_append, List.mem_cons] at hp ⊢
    k_extra "g"
    rcases hp with h | h | h | h | h <;> k_extra "h"
    · exact .inl h
    · exact .inr (.inl (.inr h))
    · exact .inr (.inr (.inl h))
    · exact .inr (.inl (.inl h))
    · exact .inr (.inr (.inr h))
end
end
end
section
theorem L_T_D2.ln9_T_D2 : True := trivial
open L_T_D2
section
variable (prog : Program) (w : World) (loose : List Str) (mean : ExcName → Option Value) (mg mb : Str → Option Value)
theorem kw9_D2_1 : True := by
  (k_with "lT_D2" => fail_if_success (fail_if_success (have h9 := ln9_T_D2)))
  (k_with "omega" => (k_extra "lT_D2"; first | (with_reducible assumption) | lia | omega +splitDisjunctions))
  trivial
section
variable {prog : Program} {w : World} {A : Around} {E : Value → Shared → Prop} {s : Shared} {h₀ : Heap} {L sa : Addr} {m : Str → Option Value} {news : Led} {g : Obj → Led} {so : Obj} {S : Int → Bool} {n : Nat} {k : Int}
theorem wpAny_chooseOne {src : Source} {Q : Nat → Shared → Prop} (h : ∀ dr, Q 0 { s with drawn := dr }) : wpAny (model prog w) A (choose src 1) Q E s := fun Γ p hΓ => by
  refine ⟨by decide, ?_⟩
  show Q _ _
  rw [Nat.mod_one]
  exact h _
theorem set_noBool : typeLookup (.type "set") (Str.ofString "__bool__") = pure none := by rw [typeLookup_type, builtinLookup_eq_fast]; kernel_rfl
theorem set_truthy {Q : Bool → Shared → Prop} (N : News h₀ L s.heap news) (hm : (sa, so) ∈ news) (hso : so.SetObjOf (intKind prog w) S n) (hn : n ≤ 1000) (h : Q (decide (0 < n)) { s with toks := s.toks + 1 + 1 }) : wpAny (model prog w) A (truthy (.ref sa)) Q E s := by
  k_extra "g"
  obtain ⟨hex, es, ep, t, hd, hel, hmem, hsz, hf⟩ := hso
  k_extra "h"
  have ho := (N _ hm).1
  have hT : s.TypeIs (.ref sa) "set" := ⟨_, ho, hex.1⟩
  have hne : ((es.size : Int) != 0) = decide (0 < n) := by
    rw [hsz]
    by_cases e : n = 0
    · subst e; rfl
    · have h1 : ((n : Int) != 0) = true := bne_iff_ne.mpr (by omega)
      rw [h1, decide_eq_true (by omega)]
  have key : wpAny (model prog w) A (runValue (.builtin "len" ⟨[.ref sa], []⟩)) (fun r s' => r = .int es.size (s.toks + 1) ∧ Q (decide (0 < n)) s') E s := by
    refine wpAny_runValue (codeAny_builtin entry_len ?_)
    rw [Around.under_plainId plain_len _]
    exact wpAny_mono (wpAny_len_body_set (Q := fun r s' => r = .int es.size (s.toks + 1) ∧ Q (decide (0 < n)) s') ho hex hd hf (by omega) ⟨rfl, h⟩)
      (fun fin s' h' => by obtain ⟨r, rfl, hq⟩ := h'; exact hq) fun _ _ e => e
  unfold truthy
  refine wpAny_bind (wpAny_callSpecial?_none (name := Str.ofString "__bool__") hT set_noBool ?_)
  refine wpAny_bind (wpAny_specialOf (name := Str.ofString "__len__") hT PySem.F.slot_set_len.lookup ?_)
  exact wpAny_bind (wpAny_mono key (fun r s' h' => by obtain ⟨rfl, hq⟩ := h'; exact wpAny_pure (hne ▸ hq)) fun _ _ e => e)
theorem insertAt_size (xs : Array Nat) (p x : Nat) : (SetTable.insertAt xs p x).size ≤ xs.size + 1 := by
  unfold SetTable.insertAt
  simp
  omega
namespace setpop_one
noncomputable section
def Claim9 (prog : Program) (w : World) (A : Around) (E : Value → Shared → Prop) (s : Shared) (h₀ : Heap) (L sa : Addr) (m : Str → Option Value) (news : Led) (g : Obj → Led) (so : Obj) (S : Int → Bool) (k : Int) (Q : Value → Shared → Prop) : Prop := ∀ (F : Fr h₀ L s.heap m) (N : News h₀ L s.heap news) (U : UpdF sa so news g) (hso : so.SetObjOf (intKind prog w) S 1) (hk : S k = true) (h : ∀ t o' h' dr, Fr h₀ L h' m → News h₀ L h' (g o') → o'.SetObjOf (intKind prog w) (fun _ => false) 0 → Q (.int k t) { s with heap := h', drawn := dr }), wpAny (model prog w) A (call (.builtin "set.pop") [.ref sa]) Q E s
abbrev T9 : Type := ((((Program × World) × (Around × (Value → Shared → Prop))) × ((Shared × Heap) × (Addr × Addr))) × ((((Str → Option Value) × Led) × ((Obj → Led) × Obj)) × (((Int → Bool) × Int) × (Value → Shared → Prop))))
def U9 (t : T9) : Prop := Claim9 t.1.1.1.1 t.1.1.1.2 t.1.1.2.1 t.1.1.2.2 t.1.2.1.1 t.1.2.1.2 t.1.2.2.1 t.1.2.2.2 t.2.1.1.1 t.2.1.1.2 t.2.1.2.1 t.2.1.2.2 t.2.2.1.1 t.2.2.1.2 t.2.2.2
@[irreducible] def v9 : T9 := ch9 (by k_extra "NE") U9
theorem spec9 : U9 v9 → ∀ t, U9 t := by with_unfolding_all exact sp9 _ U9
theorem core9 : U9 v9 := by
  refine (let prog := v9.1.1.1.1; let w := v9.1.1.1.2; let A := v9.1.1.2.1; let E := v9.1.1.2.2; let s := v9.1.2.1.1; let h₀ := v9.1.2.1.2; let L := v9.1.2.2.1; let sa := v9.1.2.2.2; let m := v9.2.1.1.1; let news := v9.2.1.1.2; let g := v9.2.1.2.1; let so := v9.2.1.2.2; let S := v9.2.2.1.1; let k := v9.2.2.1.2; let Q := v9.2.2.2; (?_ : Claim9 prog w A E s h₀ L sa m news g so S k Q))
  clear_value prog w A E s h₀ L sa m news g so S k Q
  intro F N U hso hk h
  k_extra "g"
  obtain ⟨pre, post, rfl, hg, a1, a2⟩ := U.split
  obtain ⟨hex, es, ep, t, hd, hel, hmem, hsz, hf⟩ := id hso
  have ho := (N (sa, so) (by simp)).1
  have hT : s.TypeIs (.ref sa) "set" := ⟨_, ho, hex.1⟩
  obtain ⟨e, rfl⟩ : ∃ e, es = #[e] := Array.size_eq_one_iff.mp hsz
  obtain ⟨e', he', hke⟩ := (hmem k).mp hk
  obtain rfl : e' = e := by simpa using he'
  obtain ⟨tk, hx⟩ := Value.isInt_shape hke
  k_extra "h"
  have hp : t.place.size = 1 ∧ t.fill ≤ t.mask := by simpa [SetTable.fits] using hf
  have hpp : t.popPlace = some 0 := by
    unfold SetTable.popPlace
    have : t.place.isEmpty = false := by simp [Array.isEmpty, hp.1]
    rw [this, hp.1]
    show some (if _ < 1 then _ else 0) = some 0
    congr 1
    split <;> omega
  have hdrop : (t.popped 0).fits 0 = true := by
    have e0 : t.place[0]? = some t.place[0] := Array.getElem?_eq_getElem (by omega)
    unfold SetTable.popped SetTable.drop
    rw [e0]
    have z := insertAt_size t.dummies (SetTable.below t.dummies t.place[0]) t.place[0]
    have h2 := hp.2
    unfold SetTable.fill at h2
    simp [SetTable.fits, SetTable.fill, SetTable.eraseAt, hp.1]
    omega
  have fin : ∀ dr, wpAny (model prog w) A.in1 (do
      let some (_, x) := (#[e'] : Array (Int × Value))[0]? | unsupported "internal:set.pop"
      storeSet sa (SetTable.eraseAt #[e'] 0) (t.popped 0)
      return some x : Sem (Option Value)) (fun r s' => ∃ t h' dr o', r = some (.int k t) ∧ s' = { s with heap := h', drawn := dr } ∧ Fr h₀ L h' m ∧ News h₀ L h' (g o') ∧ o'.SetObjOf (intKind prog w) (fun _ => false) 0) E { s with drawn := dr } := by
    intro dr
    show wpAny _ _ (storeSet sa (SetTable.eraseAt #[e'] 0) (t.popped 0) >>= fun _ => pure (some e'.2)) _ _ _
    k_extra "g"
    obtain ⟨F2, N2⟩ := news_upd (pre := pre) (post := post) (f := Obj.putSet (SetTable.eraseAt #[e'] 0) (t.popped 0)) F N a1 a2 (putSet_of _ _ hd) rfl
    k_extra "h"
    refine wpAny_bind (wpAny_storeSet_of (s := { s with drawn := dr }) ho hd (wpAny_pure ⟨tk, _, dr, _, by rw [hx], rfl, F2, hg _ ▸ N2, ?_⟩) (by simp [SetTable.eraseAt]))
    refine ⟨⟨hex.1, hex.2.1, hex.2.2⟩, #[], ep + 1, t.popped 0, ?_, fun e he => by simp at he, fun k => by simp, rfl, hdrop⟩
    simp [SetTable.eraseAt]
  refine wpAny_call_entry PySem.F.slot_set_pop hT PySem.F.entry_set_pop ?_ (PySem.F.args_set_pop_1 _)
  unfold Builtin.«set.pop»
  refine wpAny_bind (wpAny_of_eq (a := sa) (by kernel_rfl) ?_)
  unfold setPop
  refine wpAny_bind ?_
  refine wpAny_bind (wpAny_setState_of ho hd hf ?_)
  dsimp only
  rw [hpp]
  dsimp only
  refine wpAny_bind ?_
  unfold setsByText
  refine wpAny_bind (wpAny_askSetting (wpAny_pure ?_))
  have last : ∀ r s', (∃ t h' dr o', r = some (.int k t) ∧ s' = { s with heap := h', drawn := dr } ∧ Fr h₀ L h' m ∧ News h₀ L h' (g o') ∧ o'.SetObjOf (intKind prog w) (fun _ => false) 0) →
      wpAny (model prog w) A.in1 (match r with
        | some x => ret x
        | x => do
          rule "set.pop.empty"
          raiseErrorWords "KeyError" "pop from an empty set") (fun fin s' => ∃ v, fin = .done (.ret v) ∧ Q v s') E s' := by
    rintro r s' ⟨t, h', dr, o', rfl, rfl, F', N', ho'⟩
    exact wpAny_pure ⟨_, rfl, h t o' h' dr F' N' ho'⟩
  split
  · refine wpAny_bind (wpAny_chooseOne fun dr => ?_)
    exact wpAny_mono (fin dr) last fun _ _ e => e
  · refine wpAny_bind (wpAny_of_eq (a := ()) (by obtain ⟨_, _, _, _, led, _, _⟩ := t; cases led <;> rfl) ?_)
    refine wpAny_bind (wpAny_pure ?_)
    exact wpAny_mono (fin s.drawn) last fun _ _ e => e
end
end setpop_one
theorem setpop_one {Q : Value → Shared → Prop} (F : Fr h₀ L s.heap m) (N : News h₀ L s.heap news) (U : UpdF sa so news g) (hso : so.SetObjOf (intKind prog w) S 1) (hk : S k = true)
    (h : ∀ t o' h' dr, Fr h₀ L h' m → News h₀ L h' (g o') → o'.SetObjOf (intKind prog w) (fun _ => false) 0 → Q (.int k t) { s with heap := h', drawn := dr }) : wpAny (model prog w) A (call (.builtin "set.pop") [.ref sa]) Q E s := ((setpop_one.spec9 setpop_one.core9 ((((prog, w), (A, E)), ((s, h₀), (L, sa))), (((m, news), (g, so)), ((S, k), Q))) : setpop_one.Claim9 prog w A E s h₀ L sa m news g so S k Q)) F N U hso hk h
theorem set_truthy1 {Q : Bool → Shared → Prop} (N : News h₀ L s.heap news) (hm : (sa, so) ∈ news) (hso : so.SetObjOf (intKind prog w) S (n + 1)) (hn : n ≤ 900) (h : Q true { s with toks := s.toks + 1 + 1 }) : wpAny (model prog w) A (truthy (.ref sa)) Q E s :=
  set_truthy N hm hso (by omega) (by rw [decide_eq_true (by omega)]; exact h)
theorem set_truthy0 {Q : Bool → Shared → Prop} (N : News h₀ L s.heap news) (hm : (sa, so) ∈ news) (hso : so.SetObjOf (intKind prog w) S 0) (h : Q false { s with toks := s.toks + 1 + 1 }) : wpAny (model prog w) A (truthy (.ref sa)) Q E s :=
  set_truthy N hm hso (by omega) h
theorem setpop_method {pl : Sem Bool} {Q : Value × List Value → Shared → Prop} (N : News h₀ L s.heap news) (hm : (sa, so) ∈ news) (hso : so.SetObjOf (intKind prog w) S 1) (h : Q (.builtin "set.pop", [.ref sa]) s) :
    wpAny (model prog w) A (getMethod (.ref sa) "pop" pl) Q E s := by
  have hS := hso.setOf (N _ hm).1 (by decide)
  exact getMethod_builtin hS.typeIs PySem.F.plainAttrs_set PySem.F.slot_set_pop PySem.F.type_set_pop hS.noDict h
theorem setpop_K {Q : Value → Shared → Prop} (F : Fr h₀ L s.heap m) (N : News h₀ L s.heap news) (U : UpdF sa so news g) (hso : so.SetObjOf (intKind prog w) (fun k' => false || decide (k' = k)) (0 + 1))
    (h : ∀ t o' h' dr, Fr h₀ L h' m → News h₀ L h' (g o') → o'.SetObjOf (intKind prog w) (fun _ => false) 0 → Q (.int k t) { s with heap := h', drawn := dr }) : wpAny (model prog w) A (call (.builtin "set.pop") [.ref sa]) Q E s :=
  setpop_one F N U hso (by show (false || decide (k = k)) = true; rw [Bool.false_or]; exact decide_eq_true rfl) h
end
end
end
section
open L_P L_D
section
variable (prog : Program) (w : World) (loose : List Str) (mean : ExcName → Option Value) (mg mb : Str → Option Value)
theorem fill_9 : PySem.Challenge.rw_sh0047_01 = PySem.Challenge.rw_sh0047_01 ∧ kf.heap_1 = kf.heap_1 := by
  k_fill
  exact ⟨rfl, rfl⟩
namespace cp_con
noncomputable section
def Claim9 (prog : Program) (w : World) (loose : List Str) (mean : ExcName → Option Value) (mg mb : Str → Option Value) (z : Addr) (oz : Obj) (k : Int) (t u v : Tok) : Prop := ∀ (hk : 0 ≤ k ∧ k ≤ 40), ConD prog w loose mean mg mb 360 300 29 [Value.int k t, Value.int 5 u, Value.int 2048 v] [(z, oz)] []
      (fun r mu' nw => mu' = [] ∧ ∃ (D : Addr) (o : Obj), r = .ref D ∧ nw = [(D, o)] ∧ @LT.lt Nat _ z D)
abbrev T9 : Type := ((((Program × World) × (List Str)) × (((ExcName → Option Value) × (Str → Option Value)) × (Str → Option Value))) × (((Addr × Obj) × Int) × ((Tok × Tok) × Tok)))
def U9 (t : T9) : Prop := Claim9 t.1.1.1.1 t.1.1.1.2 t.1.1.2 t.1.2.1.1 t.1.2.1.2 t.1.2.2 t.2.1.1.1 t.2.1.1.2 t.2.1.2 t.2.2.1.1 t.2.2.1.2 t.2.2.2
@[irreducible] def v9 : T9 := ch9 (by k_extra "NE") U9
theorem spec9 : U9 v9 → ∀ t, U9 t := by with_unfolding_all exact sp9 _ U9
theorem core9 : U9 v9 := by
  refine (let prog := v9.1.1.1.1; let w := v9.1.1.1.2; let loose := v9.1.1.2; let mean := v9.1.2.1.1; let mg := v9.1.2.1.2; let mb := v9.1.2.2; let z := v9.2.1.1.1; let oz := v9.2.1.1.2; let k := v9.2.1.2; let t := v9.2.2.1.1; let u := v9.2.2.1.2; let v := v9.2.2.2; (?_ : Claim9 prog w loose mean mg mb z oz k t u v))
  clear_value prog w loose mean mg mb z oz k t u v
  intro hk
  k_extra "CON"
  k_extra "STEPSD"
  all_goals k_extra "LVD"
  all_goals (refine end_cut 1 5 ?_ ?_ ?_)
  all_goals first | (dsimp only [List.take, List.drop]; exact ⟨rfl, _, _, rfl, rfl, by omega⟩) | k_extra "SUBS" | k_extra "NES"
end
end cp_con
theorem cp_con (z : Addr) (oz : Obj) (k : Int) (t u v : Tok) (hk : 0 ≤ k ∧ k ≤ 40) :
    ConD prog w loose mean mg mb 360 300 29 [Value.int k t, Value.int 5 u, Value.int 2048 v] [(z, oz)] []
      (fun r mu' nw => mu' = [] ∧ ∃ (D : Addr) (o : Obj), r = .ref D ∧ nw = [(D, o)] ∧ @LT.lt Nat _ z D) := ((cp_con.spec9 cp_con.core9 ((((prog, w), loose), ((mean, mg), mb)), (((z, oz), k), ((t, u), v))) : cp_con.Claim9 prog w loose mean mg mb z oz k t u v)) hk
end
end
section
section
variable (prog : Program) (w : World) (loose : List Str) (mean : ExcName → Option Value) (mg mb : Str → Option Value)
theorem end_cut3 {R : Value → Led → Led → Prop} {v : Value} {fin ro mu : Led} (i k j : Nat) (hR : R v (fin.drop j) ((fin.drop i).take k)) (h1 : ∀ p ∈ ro, p ∈ fin) (h4 : NwNe (ro ++ mu) ((fin.drop i).take k)) : MyEnd R v fin ro mu :=
  ⟨fin.drop j, (fin.drop i).take k, hR, h1, fun _ hp => List.mem_of_mem_drop hp, fun _ hp => List.mem_of_mem_drop (List.mem_of_mem_take hp), nwNe_to h4⟩
theorem end_pick {fin ro mu : Led} {R : Value → Led → Led → Prop} {v : Value} (mu' nw : Led) (hR : R v mu' nw) (h1 : ∀ p ∈ ro, p ∈ fin) (h2 : ∀ p ∈ mu', p ∈ fin) (h3 : ∀ p ∈ nw, p ∈ fin) (h4 : NwNe (ro ++ mu) nw) : MyEnd R v fin ro mu :=
  ⟨mu', nw, hR, h1, h2, h3, nwNe_to h4⟩
def CodeAs (oc : Obj) (q : Str) : Prop := ∃ vs t, oc.data = .fields vs ∧ vs[1]? = some (.str q t)
theorem updF_id {P : Addr} {o : Obj} {g : Obj → Led} {big : Led} (U : UpdF P o big g) : g o = big ∧ (P, o) ∈ big := by
  k_extra "g"
  obtain ⟨pre, post, rfl, hg, _, _⟩ := U.split
  k_extra "h"
  exact ⟨hg o, List.mem_append.mpr (.inr (.head _))⟩
theorem news_flip {h₀ h : Heap} {L : Addr} {ro mu : Led} (N : News h₀ L h (ro ++ mu)) : News h₀ L h (mu ++ ro) := fun q hq => N q (List.mem_append.mpr (List.mem_append.mp hq).symm)
theorem kG_flip {s : Shared} {g : Heap} {ro mu : Led} (k : ∀ b o, s.heap.get? b = some o → b ∉ adr (mu ++ ro) → g.get? b = some o) : ∀ b o, s.heap.get? b = some o → b ∉ adr (ro ++ mu) → g.get? b = some o := fun b o e hb => k b o e (fun hm => hb (by
  k_extra "g"
  obtain ⟨q, hq, e⟩ := List.mem_map.mp hm
  k_extra "h"
  exact List.mem_map.mpr ⟨q, List.mem_append.mpr (List.mem_append.mp hq).symm, e⟩))
section
variable {M : Model} {A : Around} {E : Value → Shared → Prop} {s : Shared} {h₀ : Heap} {L a c P : Addr} {m mg mb : Str → Option Value} {cn : Str} {cs : Scope} {ccd : Value} {cl : List (Str × Addr)} {news : Led} {g : Obj → Led}
  {p : Program} {loose : List Str} {mean : ExcName → Option Value} {name qual : Str} {params : Arguments} {body : List Stmt} {scope : Scope} {pos : Pos} {firstLine : Nat} {clos : List (Str × Addr)} {o oc0 : Obj} {c0 : Addr}
theorem nest_U {Q : Value → Shared → Prop} (F : Fr h₀ L s.heap m) (N : News h₀ L s.heap news) (T : Top p loose mean mg mb h₀) (C : CodeHd h₀ c P) (hcd : ccd = .ref c) (hst : o = tabObj #[] ∨ (o = tabObj #[rawInt pos.line, rawInt pos.col, .ref c0] ∧ CodeAs oc0 qual)) (U : UpdF P o news g) (hm0 : (c0, oc0) ∈ news)
    (hcl : closureFor scope (envX cn cs L a ccd cl) = pure clos)
    (h : ∀ f c' oc nl ctv doc h' tk, Fr h₀ L h' m →
      News h₀ L h' ((f, fnMade name qual params body scope clos doc ((mg "__name__").getD .none) c' ctv) :: (g (tabObj #[rawInt pos.line, rawInt pos.col, .ref c']) ++ nl)) →
      CodeAs oc qual → ((o = tabObj #[] ∧ nl = [(c', oc)]) ∨ (o = tabObj #[rawInt pos.line, rawInt pos.col, .ref c0] ∧ nl = [] ∧ c' = c0 ∧ oc = oc0)) → (∀ q ∈ news, @LT.lt Nat _ q.1 f) → (∀ q ∈ nl, ∀ r ∈ news, @LT.lt Nat _ r.1 q.1) → (∀ q ∈ nl, @LT.lt Nat _ q.1 f) → Q (.ref f) { s with heap := h', toks := tk }) :
    wpAny M A (makeFunction name qual params (.stmts body) scope (envX cn cs L a ccd cl) [] [] [] pos firstLine) Q E s := by
  k_extra "g"
  rcases hst with rfl | ⟨rfl, hc0⟩ <;> k_extra "h"
  · refine nest_K F N T C hcd U True.intro rfl hcl fun f c' oc vs t ctv doc h' tk F' N' d1 d2 l1 l2 => h f c' oc [(c', oc)] ctv doc h' tk F' (fun q hq => N' q ?_) ⟨vs, t, d1, d2⟩ (.inl ⟨rfl, rfl⟩) (fun q hq => Nat.lt_trans (l1 q hq) l2) (fun q hq r hr => by rw [List.mem_singleton.mp hq]; exact l1 r hr) (fun q hq => by rw [List.mem_singleton.mp hq]; exact l2)
    k_extra "g"
    rcases List.mem_cons.mp hq with rfl | hq <;> k_extra "h"
    · exact .head _
    · rcases List.mem_append.mp hq with hq | hq
      · exact mem_dr 2 hq
      · rw [List.mem_singleton.mp hq]; exact .tail _ (.head _)
  · have e1 := updF_id U
    refine nestHit_K F N T C hcd e1.2 (by simp [TriplesOk, rawInt]) (c' := c0) (by simp [codeAmong, rawInt]) hcl fun f ctv doc h' tk F' N' l1 => h f c0 oc0 [] ctv doc h' tk F' ?_ hc0 (.inr ⟨rfl, rfl, rfl, rfl⟩) l1 (fun _ h => nomatch h) (fun _ h => nomatch h)
    rw [List.append_nil, e1.1]
    exact N'
end
theorem nwNe_all {big : Led} : ∀ {l : Led}, (∀ q ∈ l, AllNe q.1 big) → NwNe big l
  | [], _ => trivial
  | p :: _, h => ⟨h p (.head _), nwNe_all fun q hq => h q (.tail _ hq)⟩
theorem agt_ne {nl news : Led} {a : Addr} {o : Obj} (h : ∀ q ∈ nl, ∀ r ∈ news, @LT.lt Nat _ r.1 q.1) (m : (a, o) ∈ news) : AllNe a nl := allNe_of fun q hq => Nat.ne_of_gt (h q hq _ m)
end
end
section
theorem L_T_S2.ln9_T_S2 : True := trivial
open L_P L_D L_S L_T_S2
section
variable (prog : Program) (w : World) (loose : List Str) (mean : ExcName → Option Value) (mg mb : Str → Option Value)
@[irreducible] def IntF (y : Str) (n : Int) : Prop := PySem.intText? y = some n ∧ y.length ≤ 640
theorem int_fact {prog : Program} {w : World} {A : Around} {E : Value → Shared → Prop} {s : Shared} {Q : Value → Shared → Prop} {y : Str} {t : Tok} {n : Int} (h : IntF y n) (hq : Q (.int n s.toks) { s with toks := s.toks + 1 }) : wpAny (model prog w) A (call (.type "int") [.str y t]) Q E s := by
  unfold IntF at h
  exact PySem.W.KIN.call_text h.1 h.2 hq
section
variable {prog : Program} {w : World} {loose : List Str} {mean : ExcName → Option Value} {mg mb : Str → Option Value} {dp un : Nat} {big : Led}
  {gd : Option (List Code)} {cn : Str} {cs : Scope} {a : Addr} {ccd : Value} {cl : List (Str × Addr)} {outer : List Env} {A₀ : Around} {base h₀ : Heap} {L z : Addr} {oz : Obj} {m : Str → Option Value} {s : Shared} {Q E : Value → Shared → Prop} {k : Int} {t u v : Tok}
theorem cp_use (hz : (z, oz) ∈ big) (hk1 : 0 ≤ k) (hk2 : k ≤ 40) (hdp : dp ≤ 360) (hu : un ≤ 300) (B : Below A₀ base outer h₀) (F : Fr h₀ L s.heap m) (X : (kf.heap_1 w.params).In h₀) (N : News h₀ L s.heap big) (T : Top topProg loose mean mg mb h₀) (hk : cs.kind = .function)
    (ret : ∀ D o h' tk' dr', Fr h₀ L h' m → News h₀ L h' ((D, o) :: big) → @LT.lt Nat _ z D → Q (.ref D) { s with heap := h', toks := tk', drawn := dr' }) :
    wpAny (model prog w) (ktrTop dp un gd cn cs L a ccd cl outer) (call (.ref 29) [.int k t, .int 5 u, .int 2048 v]) Q E s := by
  refine wpAny_call <| conD_use0 (cp_con prog w loose mean mg mb z oz k t u v ⟨hk1, hk2⟩) hdp hu B F X N T hk (fun p hp => by rw [List.mem_singleton.mp hp]; exact hz) fun r mu' nw h' tk' dr' F' N' hR hn => ?_
  obtain ⟨_, D, o, rfl, rfl, hl⟩ := hR
  exact ret D o h' tk' dr' F' N' hl
end
noncomputable abbrev tabIn (c : Addr) : Obj := tabObj #[rawInt 55, rawInt 4, .ref c]
theorem kw9_S2_2 : True := by
  (k_with "lT_S2" => fail_if_success (fail_if_success (have h9 := ln9_T_S2)))
  (k_with "k_all" => (k_extra "lT_S2"; exact allNe_to (by with_reducible assumption)))
  (k_with "k_mem" => (k_extra "lT_S2"; first | with_reducible assumption | assumption))
  trivial
namespace s2i_con
noncomputable section
def Claim9 (prog : Program) (w : World) (loose : List Str) (mean : ExcName → Option Value) (mg mb : Str → Option Value) (z c0 : Addr) (oz oc0 o31 : Obj) (x : Str) (t : Tok) (n : Int) : Prop := ∀ (hz : @LT.lt Nat _ 31 z) (hc0 : @Ne Nat c0 31) (hst : o31 = tabObj #[] ∨ (o31 = tabIn c0 ∧ CodeAs oc0 (Str.ofString "_str_to_int_inner.<locals>.inner"))) (hx : x.length = 1 ∨ x.length = 2) (hI : IntF (Txt.slice x (some 0) (some (x.length : Int))) n), ConD prog w loose mean mg mb 355 280 36 [Value.str x t] [(z, oz), (c0, oc0)] [(31, o31)]
      (fun r mu' nl => ∃ c oc t', r = .int n t' ∧ mu' = [(31, tabIn c)] ∧ CodeAs oc (Str.ofString "_str_to_int_inner.<locals>.inner") ∧ ((o31 = tabObj #[] ∧ nl = [(c, oc)] ∧ @LT.lt Nat _ z c) ∨ (o31 = tabIn c0 ∧ nl = [] ∧ c = c0 ∧ oc = oc0)))
abbrev T9 : Type := ((((Program × World) × ((List Str) × (ExcName → Option Value))) × (((Str → Option Value) × (Str → Option Value)) × Addr)) × (((Addr × Obj) × (Obj × Obj)) × ((Str × Tok) × Int)))
def U9 (t : T9) : Prop := Claim9 t.1.1.1.1 t.1.1.1.2 t.1.1.2.1 t.1.1.2.2 t.1.2.1.1 t.1.2.1.2 t.1.2.2 t.2.1.1.1 t.2.1.1.2 t.2.1.2.1 t.2.1.2.2 t.2.2.1.1 t.2.2.1.2 t.2.2.2
@[irreducible] def v9 : T9 := ch9 (by k_extra "NE") U9
theorem spec9 : U9 v9 → ∀ t, U9 t := by with_unfolding_all exact sp9 _ U9
theorem core9 : U9 v9 := by
  refine (let prog := v9.1.1.1.1; let w := v9.1.1.1.2; let loose := v9.1.1.2.1; let mean := v9.1.1.2.2; let mg := v9.1.2.1.1; let mb := v9.1.2.1.2; let z := v9.1.2.2; let c0 := v9.2.1.1.1; let oz := v9.2.1.1.2; let oc0 := v9.2.1.2.1; let o31 := v9.2.1.2.2; let x := v9.2.2.1.1; let t := v9.2.2.1.2; let n := v9.2.2.2; (?_ : Claim9 prog w loose mean mg mb z c0 oz oc0 o31 x t n))
  clear_value prog w loose mean mg mb z c0 oz oc0 o31 x t n
  intro hz hc0 hst hx hI
  k_extra "CONC"
  have C1 : CodeHd g' 35 31 := codeHd_of_K X' (by kernel_rfl)
  repeat' (first | ((fail_if_success (with_reducible show wpAny _ _ (exec (Stmt.FunctionDef _ _ _ _ _ _ _ _ _ _) _) _ _ _)); k_extra "STEP1"))
  refine' nestDef_K rfl rfl rfl ?_
  k_dflt (refine' nest_U ?F ?N ?T ?C ?cd ?st ?U ?mm ?cl ?_; (case F => k_asm); (case N => k_asm); (case T => k_asm); (case cd => exact rfl); (case C => kn_code); (case st => assumption); (case U => k_updF); (case mm => k_mem); (case cl => exact rfl); k_whole)
  intro f9 c9 oc9 nl9 ct9 dc9 h9 tk9 F9 N9 hco9 hnl9 lf9 ln9 ls9
  have hD1 : AllNe (L' + 1) nl9 := agt_ne ln9 (by k_mem)
  have hD2 : AllNe (L' + 1 + 1) nl9 := agt_ne ln9 (by k_mem)
  have hD3 : AllNe (L' + 1 + 1 + 1) nl9 := agt_ne ln9 (by k_mem)
  have hD4 : AllNe (L' + 1 + 1 + 1 + 1) nl9 := agt_ne ln9 (by k_mem)
  have hDc : ∀ q ∈ nl9, @LT.lt Nat _ z q.1 := fun q hq => ln9 q hq (z, oz) (by k_mem)
  have hnn : ∀ q ∈ nl9, AllNe q.1 [(z, oz), (c0, oc0), (31, o31)] := fun q hq => ⟨Nat.ne_of_lt (ln9 q hq (z, oz) (by k_mem)), Nat.ne_of_lt (ln9 q hq (c0, oc0) (by k_mem)), Nat.ne_of_lt (ln9 q hq (31, o31) (by k_mem)), trivial⟩
  k_lt lf9
  clear ln9 ls9
  k_extra "g"
  obtain ⟨ts, hts⟩ := opq ((c0, oc0) :: (31, tabIn c9) :: nl9)
  k_extra "h"
  dsimp only [List.cons_append, List.nil_append] at N9
  replace N9 : News g' L' h9 (_ :: _ :: _ :: _ :: _ :: _ :: ts) := hts ▸ N9
  have hC1 : AllNe (L' + 1) ts := hts ▸ ⟨by omega, by omega, hD1⟩
  have hC2 : AllNe (L' + 1 + 1) ts := hts ▸ ⟨by omega, by omega, hD2⟩
  have hC3 : AllNe (L' + 1 + 1 + 1) ts := hts ▸ ⟨by omega, by omega, hD3⟩
  have hC4 : AllNe (L' + 1 + 1 + 1 + 1) ts := hts ▸ ⟨by omega, by omega, hD4⟩
  have hcm : (c9, oc9) ∈ ts := by
    rw [hts]
    k_extra "g"
    rcases hnl9 with ⟨_, rfl⟩ | ⟨_, _, rfl, rfl⟩ <;> k_extra "h"
    · exact mem_ix 2 rfl
    · exact .head _
  have hc0t : (c0, oc0) ∈ ts := hts ▸ .head _
  have h31t : (31, tabIn c9) ∈ ts := hts ▸ .tail _ (.head _)
  have hnlt : ∀ q ∈ nl9, q ∈ ts := fun q hq => hts ▸ mem_dr 2 hq
  have hNE : NwNe ([(z, oz), (c0, oc0)] ++ [(31, o31)]) nl9 := nwNe_all hnn
  have hSt : (o31 = tabObj #[] ∧ nl9 = [(c9, oc9)] ∧ @LT.lt Nat _ z c9) ∨ (o31 = tabIn c0 ∧ nl9 = [] ∧ c9 = c0 ∧ oc9 = oc0) := hnl9.imp (fun ⟨a, b⟩ => ⟨a, b, hDc (c9, oc9) (by rw [b]; exact .head _)⟩) id
  k_extra "g"
  obtain ⟨vsc, tc, hoc1, hoc2⟩ := id hco9
  k_extra "h"
  clear hD1 hD2 hD3 hD4 hDc hnn hnl9 hst hts
  have hSt9 := Hid.mk hSt
  clear hSt
  k_extra "STEPSD"
  k_extra "LVD"
  exact end_pick [(31, tabIn c9)] nl9 ⟨c9, oc9, _, rfl, rfl, hco9, hSt9.out⟩ (List.forall_mem_cons.mpr ⟨by k_mem, List.forall_mem_cons.mpr ⟨by k_mem, List.forall_mem_nil _⟩⟩) (List.forall_mem_cons.mpr ⟨by k_mem, List.forall_mem_nil _⟩) (fun q hq => by (repeat (first | exact hnlt q hq | apply List.Mem.tail))) hNE
end
end s2i_con
theorem s2i_con (z c0 : Addr) (oz oc0 o31 : Obj) (x : Str) (t : Tok) (n : Int) (hz : @LT.lt Nat _ 31 z) (hc0 : @Ne Nat c0 31) (hst : o31 = tabObj #[] ∨ (o31 = tabIn c0 ∧ CodeAs oc0 (Str.ofString "_str_to_int_inner.<locals>.inner"))) (hx : x.length = 1 ∨ x.length = 2) (hI : IntF (Txt.slice x (some 0) (some (x.length : Int))) n) :
    ConD prog w loose mean mg mb 355 280 36 [Value.str x t] [(z, oz), (c0, oc0)] [(31, o31)]
      (fun r mu' nl => ∃ c oc t', r = .int n t' ∧ mu' = [(31, tabIn c)] ∧ CodeAs oc (Str.ofString "_str_to_int_inner.<locals>.inner") ∧ ((o31 = tabObj #[] ∧ nl = [(c, oc)] ∧ @LT.lt Nat _ z c) ∨ (o31 = tabIn c0 ∧ nl = [] ∧ c = c0 ∧ oc = oc0))) := ((s2i_con.spec9 s2i_con.core9 ((((prog, w), (loose, mean)), ((mg, mb), z)), (((c0, oz), (oc0, o31)), ((x, t), n))) : s2i_con.Claim9 prog w loose mean mg mb z c0 oz oc0 o31 x t n)) hz hc0 hst hx hI
end
end
section
theorem L_T_S3.ln9_T_S3 : True := trivial
open L_P L_T_S3
section
variable (prog : Program) (w : World) (loose : List Str) (mean : ExcName → Option Value) (mg mb : Str → Option Value)
@[irreducible] def RsF (x : Str) : Prop := stripSame Unicode.isSpace false true x = true
@[irreducible] def RpF (x : Str) : Prop := (PySem.Builtin.Str.occurrences x (Str.ofString "_") 0 x.length (x.length + 1)).isEmpty = true
section
variable {prog : Program} {w : World} {A : Around} {E : Value → Shared → Prop} {s : Shared} {x : Str} {t u v : Tok} {Q : Value → Shared → Prop}
theorem rstrip_fact (e : RsF x) (h : Q (.str x t) s) : wpAny (model prog w) A (call (.builtin "str.rstrip") [.str x t]) Q E s := by
  unfold RsF at e
  refine call_gives PySem.F.slot_str_rstrip (typeIs_str _ _ _) PySem.F.entry_str_rstrip (PySem.F.args_str_rstrip_1 _) (gives_str_rstrip x t) ?_
  rw [if_pos e]
  exact h
theorem replace_fact (e : RpF x) (h : Q (.str x t) s) : wpAny (model prog w) A (call (.builtin "str.replace") [.str x t, .str (Str.ofString "_") u, .str (Str.ofString "") v]) Q E s := by
  unfold RpF at e
  have e2 : ((PySem.Builtin.Str.occurrences x (Str.ofString "_") 0 x.length (x.length + 1)).isEmpty || ((Str.ofString "_").length == 0 && (Str.ofString "").length == 0)) = true := by rw [e, Bool.true_or]
  refine call_gives PySem.F.slot_str_replace (typeIs_str _ _ _) PySem.F.entry_str_replace (PySem.F.args_str_replace_3 _ _ _) (gives_str_replace x (Str.ofString "_") (Str.ofString "") t u v fun h => by rw [e2] at h; cases h) ?_
  rw [if_pos e2]
  exact h
end
section
variable {prog : Program} {w : World} {loose : List Str} {mean : ExcName → Option Value} {mg mb : Str → Option Value} {dp un : Nat} {big : Led} {g : Obj → Led}
  {gd : Option (List Code)} {cn : Str} {cs : Scope} {a : Addr} {ccd : Value} {cl : List (Str × Addr)} {outer : List Env} {A₀ : Around} {base h₀ : Heap} {L z c : Addr} {oz oc : Obj} {m : Str → Option Value} {s : Shared} {Q E : Value → Shared → Prop} {x : Str} {n : Int} {t : Tok}
theorem s2i_use {o31 oc0 : Obj} {c0 : Addr} (hI : IntF (Txt.slice x (some 0) (some (x.length : Int))) n) (hx : x.length = 1 ∨ x.length = 2) (hz : (z, oz) ∈ big) (hzl : @LT.lt Nat _ 31 z) (hm0 : (c0, oc0) ∈ big) (hn0 : @Ne Nat c0 31) (hst : o31 = tabObj #[] ∨ (o31 = tabIn c0 ∧ CodeAs oc0 (Str.ofString "_str_to_int_inner.<locals>.inner"))) (hU : UpdF 31 o31 big g) (hdp : dp ≤ 355) (hu : un ≤ 280) (B : Below A₀ base outer h₀) (F : Fr h₀ L s.heap m) (X : (kf.heap_1 w.params).In h₀) (N : News h₀ L s.heap big) (T : Top topProg loose mean mg mb h₀) (hk : cs.kind = .function)
    (ret : ∀ c oc nl t' h' tk' dr', Fr h₀ L h' m → News h₀ L h' (g (tabIn c) ++ nl) → NwNe big nl → CodeAs oc (Str.ofString "_str_to_int_inner.<locals>.inner") → ((o31 = tabObj #[] ∧ nl = [(c, oc)] ∧ @LT.lt Nat _ z c) ∨ (o31 = tabIn c0 ∧ nl = [] ∧ c = c0 ∧ oc = oc0)) → Q (.int n t') { s with heap := h', toks := tk', drawn := dr' }) :
    wpAny (model prog w) (ktrTop dp un gd cn cs L a ccd cl outer) (call (.ref 36) [.str x t]) Q E s := by
  refine wpAny_call <| conD_use1 (s2i_con prog w loose mean mg mb z c0 oz oc0 o31 x t n hzl hn0 hst hx hI) hdp hu B F X N T hk hU (List.forall_mem_cons.mpr ⟨hz, List.forall_mem_cons.mpr ⟨hm0, List.forall_mem_nil _⟩⟩) (fun r o' more nw h' tk' dr' F' N' hR hn => ?_) fun r mu' nw hR => ?_
  · k_extra "g"
    refine ex_3 hR fun c oc t' k_ => and_4 k_ fun r1_ e ho hd => ?_
    clear k_ hR
    subst r1_
    k_extra "h"
    k_extra "g"
    obtain ⟨rfl, rfl⟩ := one_eq e
    k_extra "h"
    exact ret c oc nw t' h' tk' dr' F' (fun q hq => N' q (List.mem_append.mpr (List.mem_append.mp hq).symm)) hn ho hd
  · k_extra "g"
    refine ex_3 hR fun c oc t' k_ => and_3 k_ fun _ e _ => ?_
    clear k_ hR
    k_extra "h"
    exact ⟨_, _, e⟩
end
theorem kw9_S3_3 : True := by
  (k_with "lT_S3" => fail_if_success (fail_if_success (have h9 := ln9_T_S3)))
  (k_with "call builtin:str.rstrip" => (k_extra "lT_S3"; (k_here; k_dflt (refine' rstrip_fact ?k1 ?_; (case k1 => with_reducible assumption); k_whole))))
  (k_with "call builtin:str.replace" => (k_extra "lT_S3"; (k_here; k_dflt (refine' replace_fact ?k1 ?_; (case k1 => with_reducible assumption); k_whole))))
  (k_with "call ref" => (k_extra "lT_S3"; (k_here; k_dflt (refine' s2i_use ?kI ?kx ?kz ?kl ?km ?kn ?ks ?kU (Nat.le_of_ble_eq_true rfl) (Nat.le_of_ble_eq_true rfl) ?k1 ?k2 ?k3 ?k4 ?k5 ?k6 ?_; (case kI => with_reducible assumption); (case kx => with_reducible assumption); (case ks => with_reducible assumption); (case kn => with_reducible assumption); (case k4 => k_asm); (case kz => exact List.Mem.head _); (case kl => with_reducible assumption); (case km => k_mem); k_extra "K6"; (case kU => k_extra "mU"; k_updF); k_whole); walk_at "TM")))
  trivial
theorem ifs_con (z c0 : Addr) (oz oc0 o31 : Obj) (x : Str) (t : Tok) (n : Int) (hz : @LT.lt Nat _ 31 z) (hc0 : @Ne Nat c0 31) (hst : o31 = tabObj #[] ∨ (o31 = tabIn c0 ∧ CodeAs oc0 (Str.ofString "_str_to_int_inner.<locals>.inner"))) (hx : x.length = 1 ∨ x.length = 2) (hI : IntF (Txt.slice x (some 0) (some (x.length : Int))) n) (hrs : RsF x) (hrp : RpF x) :
    ConD prog w loose mean mg mb 350 260 43 [Value.str x t] [(z, oz), (c0, oc0)] [(31, o31)]
      (fun r mu' nl => ∃ c oc t', r = .int n t' ∧ mu' = [(31, tabIn c)] ∧ CodeAs oc (Str.ofString "_str_to_int_inner.<locals>.inner") ∧ ((o31 = tabObj #[] ∧ nl = [(c, oc)] ∧ @LT.lt Nat _ z c) ∨ (o31 = tabIn c0 ∧ nl = [] ∧ c = c0 ∧ oc = oc0))) := by
  k_extra "CON"
  k_extra "STEPSD"
  k_extra "LVD"
  rename_i c9 oc9 nl9 t9 h9 tk9 dr9 F9 N9 hn8 ho9 hd9
  exact end_pick [(31, tabIn c9)] nl9 ⟨c9, oc9, _, rfl, rfl, ho9, hd9⟩ (List.forall_mem_cons.mpr ⟨.head _, List.forall_mem_cons.mpr ⟨.tail _ (.head _), List.forall_mem_nil _⟩⟩) (List.forall_mem_cons.mpr ⟨mem_ix 2 rfl, List.forall_mem_nil _⟩) (fun q hq => mem_dr 3 hq) hn8
theorem conD_same {dp un f : Nat} {vs : List Value} {ro mu : Led} {R : Value → Led → Led → Prop} {ro2 : Led} (C : ConD prog w loose mean mg mb dp un f vs ro mu R) (hm : ∀ r mu' nw, R r mu' nw → mu' = mu) (h1 : ∀ p ∈ ro ++ mu, p ∈ ro2) (h2 : ∀ p ∈ ro2, p ∈ ro ++ mu) : ConD prog w loose mean mg mb dp un f vs ro2 [] (fun r mu' nw => mu' = [] ∧ R r mu nw) := by
  intro gd cn cs a ccd cl outer A₀ base h₀ L m s Q E B F X N T hk ret
  refine C gd cn cs a ccd cl outer A₀ base h₀ L m s Q E B F X (fun p hp => N p (by rw [List.append_nil]; exact h1 p hp)) T hk fun r mu' nw h' tk' dr' F' N' k fr hR => ?_
  have e := hm _ _ _ hR
  subst e
  refine ret r [] nw h' tk' dr' F' (fun p hp => N' p ?_) (fun b o hb _ => ?_) fr ⟨rfl, hR⟩
  · rw [List.append_nil] at hp
    exact List.mem_append.mpr ((List.mem_append.mp hp).imp id (h2 p))
  · by_cases q : b ∈ adr mu'
    · obtain ⟨p, hp, rfl⟩ := List.mem_map.mp q
      have e1 := (N p (by rw [List.append_nil]; exact h1 p (List.mem_append.mpr (.inr hp)))).1
      rw [hb] at e1
      cases e1
      exact (N' p (List.mem_append.mpr (.inr (List.mem_append.mpr (.inr hp))))).1
    · exact k b o hb q
end
end
section
theorem L_T_DI.ln9_T_DI : True := trivial
open L_P L_T_DI
section
variable (prog : Program) (w : World) (loose : List Str) (mean : ExcName → Option Value) (mg mb : Str → Option Value)
noncomputable abbrev tabD2 (c : Addr) : Obj := tabObj #[rawInt 110, rawInt 4, .ref c]
theorem two_mono {a b : Nat} (h : a ≤ b) : (2 : Int) ^ a ≤ 2 ^ b := by
  have := Nat.pow_le_pow_right (n := 2) (by omega) h
  have e : ∀ k : Nat, ((2 : Int) ^ k) = ((2 ^ k : Nat) : Int) := fun k => by simp
  rw [e, e]
  exact Int.ofNat_le.mpr this
@[irreducible] def Bd (y : Int) (l : Nat) : Prop := 0 ≤ y ∧ y < 2 ^ (6 * l)
theorem Bd.out {y : Int} {l : Nat} (h : Bd y l) (hl : l ≤ 8) : 0 ≤ y ∧ y < 281474976710656 := by
  unfold Bd at h
  have e : (2 : Int) ^ (6 * l) ≤ 2 ^ 48 := two_mono (by omega)
  omega
theorem Bd.step {y1 y2 sh : Int} {l : Nat} (h1 : Bd y1 l) (h2 : Bd y2 l) (_hs : 0 ≤ sh) (hs2 : sh ≤ l * 6) : Bd (y1 * 2 ^ sh.toNat + y2) (2 * l) := by
  unfold Bd at *
  have e : (2 : Int) ^ sh.toNat ≤ 2 ^ (6 * l) := two_mono (by omega)
  have p : (0 : Int) < 2 ^ sh.toNat := Int.pow_pos (by omega)
  have e2 : (2 : Int) ^ (6 * (2 * l)) = 2 ^ (6 * l) * 2 ^ (6 * l) := by rw [← Int.pow_add]; congr 1; omega
  rw [e2]
  generalize (2 : Int) ^ (6 * l) = B at *
  generalize (2 : Int) ^ sh.toNat = S at *
  have a1 : 0 ≤ y1 * S := Int.mul_nonneg h1.1 (by omega)
  have a2 : y1 * S ≤ (B - 1) * B := Int.mul_le_mul (by omega) e (by omega) (by omega)
  rw [Int.sub_mul] at a2
  omega
theorem Bd.mono {y : Int} {l l' : Nat} (h : Bd y l) (hl : l ≤ l') : Bd y l' := by
  unfold Bd at *
  have e : (2 : Int) ^ (6 * l) ≤ 2 ^ (6 * l') := two_mono (by omega)
  omega
theorem Bd.one {y : Int} (h : 0 ≤ y ∧ y < 64) : Bd y 1 := by
  unfold Bd
  exact h
def D2I (prog : Program) (w : World) (loose : List Str) (mean : ExcName → Option Value) (mg mb : Str → Option Value) (f : Addr) (ro : Led) (k : Nat) (dp un len : Nat) : Prop :=
  ∀ (i j : Int) (t u : Tok), 0 ≤ i → i < j → j ≤ k → j ≤ i + len →
    Con prog w loose mean mg mb dp un f [.int i t, .int j u] ro [] (fun r mu' nw => mu' = [] ∧ nw = [] ∧ ∃ y t', r = .int y t' ∧ Bd y len)
section
variable {prog : Program} {w : World} {loose : List Str} {mean : ExcName → Option Value} {mg mb : Str → Option Value} {D U dp un f : Nat} {big ro : Led} {g : Obj → Led}
  {gd : Option (List Code)} {cn : Str} {cs : Scope} {a : Addr} {ccd : Value} {cl : List (Str × Addr)} {outer : List Env} {A₀ : Around} {base h₀ : Heap} {L : Addr} {m : Str → Option Value} {s : Shared} {Q E : Value → Shared → Prop} {k c len : Nat} {i j : Int} {t u v : Tok}
theorem d2i_use (C : D2I prog w loose mean mg mb f ro k dp un len) {dq uq : Nat} (h1 : 0 ≤ i) (h2 : i < j) (h3 : j ≤ k) (h5 : j ≤ i + len) (h6 : len ≤ 8)
    (hro : ∀ p ∈ ro, p ∈ big) (hdp : dq ≤ dp) (hu : uq ≤ un) (B : Below A₀ base outer h₀) (F : Fr h₀ L s.heap m) (X : (kf.heap_1 w.params).In h₀) (N : News h₀ L s.heap big) (T : Top topProg loose mean mg mb h₀) (hk : cs.kind = .function)
    (ret : ∀ y t' h' tk', Bd y len → 0 ≤ y → y < 281474976710656 → Fr h₀ L h' m → News h₀ L h' big → Q (.int y t') { s with heap := h', toks := tk' }) :
    wpAny (model prog w) (ktrTop dq uq gd cn cs L a ccd cl outer) (call (.ref f) [.int i u, .int j v]) Q E s := by
  refine wpAny_call <| con_use0 (C i j u v h1 h2 h3 h5) hdp hu B F X N T hk hro fun r mu' nw h' tk' F' N' hR hn => ?_
  k_extra "g"
  obtain ⟨_, rfl, y, t', rfl, hb⟩ := hR
  k_extra "h"
  exact ret y t' h' tk' hb (hb.out h6).1 (hb.out h6).2 F' N'
end
theorem d2i_lv {prog : Program} {w : World} {loose : List Str} {mean : ExcName → Option Value} {mg mb : Str → Option Value} {f k : Nat} {ro : Led}
    (h0 : D2I prog w loose mean mg mb f ro k 366 350 1) (h : ∀ e d u l, e ≤ 2 → d = 366 - 2 * e → u = 350 - 10 * e → l ≤ 4 → D2I prog w loose mean mg mb f ro k d u l → D2I prog w loose mean mg mb f ro k (d - 2) (u - 10) (2 * l)) : D2I prog w loose mean mg mb f ro k 360 320 8 := by
  have h1 := h 0 366 350 1 (by omega) rfl rfl (by omega) h0
  have h2 := h 1 364 340 2 (by omega) rfl rfl (by omega) h1
  exact h 2 362 330 4 (by omega) rfl rfl (by omega) h2
theorem getD_bd {ns : List Int} {k : Nat} (hb : ∀ y ∈ ns, 0 ≤ y ∧ y < 64) : 0 ≤ ns.getD k 0 ∧ ns.getD k 0 < 64 := by
  rw [List.getD_eq_getElem?_getD]
  cases e : ns[k]? with
  | none => simp
  | some y => exact hb y (List.mem_of_getElem? e)
theorem kw9_DI_3 : True := by
  (k_with "lT_DI" => fail_if_success (fail_if_success (have h9 := ln9_T_DI)))
  (k_with "call builtin:len" => (k_extra "lT_DI"; (k_here; k_dflt (refine' len_A ?k1 ?k2 ?k3 ?k4 ?_; (case k1 => k_asm); (case k2 => k_mem); (case k3 => first | assumption | exact rfl); (case k4 => omega); k_whole); intro _ _)))
  (k_with "k_room" => (k_extra "lT_DI"; ((try simp only [depth_under_make, depth_under_kw, depth_in1, depth_deeper, depth_caller]); refine Nat.lt_of_le_of_lt (m := 400) ?_ (by decide); (try dsimp only); omega)))
  (k_with "call ref" => (k_extra "lT_DI"; (k_here; (with_reducible show wpAny _ _ (call (Value.ref _) [Value.int _ _, Value.int _ _]) _ _ _); k_dflt (refine' d2i_use ?C ?b1 ?b2 ?b3 ?b5 ?b6 ?kro ?d1 ?d2 ?k1 ?k2 ?k3 ?k4 ?k5 ?k6 ?_; (case C => assumption); (case k4 => k_asm); k_extra "K6"; (case kro => exact fun p hp => hp); (case d1 => (dsimp only; omega)); (case d2 => (dsimp only; omega)); (case b1 => omega); (case b2 => omega); (case b3 => omega); (case b5 => omega); (case b6 => omega); k_whole); intro _ _ _ _ _ _ _ _ _)))
  trivial
theorem mid_facts2 {e d u l k : Nat} {i j M : Int} (he : e ≤ 2) (hd : d = 366 - 2 * e) (hu : u = 350 - 10 * e) (hl : l ≤ 4) (h1 : 0 ≤ i) (h2 : i < j) (h3 : j ≤ (k : Int)) (h4 : k ≤ 20) (h5 : j ≤ i + ((2 * l : Nat) : Int)) (hm : M = (i + j) / 2) :
    (0 ≤ M ∧ M < j ∧ M ≤ (k : Int) ∧ -2 ^ 64 < M - i ∧ M - i < 2 ^ 64 ∧ 0 ≤ M - i ∧ M - i ≤ 20 ∧ j ≤ M + (l : Int)) ∧ (M ≤ i + (l : Int) ∧ d - 2 + 1 ≤ d ∧ u - 10 + 3 ≤ u ∧ d - 2 ≤ 400 ∧ M - i ≤ (l : Int) ∧ i < 2 ^ 63 ∧ 0 ≤ j ∧ (¬ i + 1 = j → i < M)) := by
  subst hm
  refine ⟨⟨?_, ?_, ?_, ?_, ?_, ?_, ?_, ?_⟩, ?_, ?_, ?_, ?_, ?_, ?_, ?_, fun _ => ?_⟩ <;> omega
theorem kw9_DI_5 : True := by
  (k_with "k_all" => (k_extra "lT_DI"; exact allNe_to (by with_reducible assumption)))
  (k_with "k_mem" => (k_extra "lT_DI"; first | with_reducible assumption | assumption))
  trivial
namespace d2i_con
noncomputable section
def Claim9 (prog : Program) (w : World) (loose : List Str) (mean : ExcName → Option Value) (mg mb : Str → Option Value) (z c0 : Addr) (oz oc0 o66 : Obj) (vs : List Value) (v0 : Value) (ns : List Int) (D cD : Nat) (n : Int) (t : Tok) : Prop := ∀ (hi : IntsAre (v0 :: vs) ns) (hsz : (v0 :: vs).length ≤ 8) (hB : ∀ y ∈ ns, 0 ≤ y ∧ y < 64) (hn : 1 ≤ n ∧ n ≤ 6) (hz : @LT.lt Nat _ 66 z) (hc0 : @Ne Nat c0 66) (hD : @LT.lt Nat _ 66 D) (hst : o66 = tabObj #[] ∨ (o66 = tabD2 c0 ∧ CodeAs oc0 (Str.ofString "_digits2int.<locals>.inner"))), Con prog w loose mean mg mb 348 250 71 [Value.ref D, Value.int n t] [(z, oz), (D, W.listOf (v0 :: vs).toArray cD), (c0, oc0)] [(66, o66)]
      (fun r mu' nl => ∃ c oc y t', r = .int y t' ∧ mu' = [(66, tabD2 c)] ∧ CodeAs oc (Str.ofString "_digits2int.<locals>.inner") ∧ ((o66 = tabObj #[] ∧ nl = [(c, oc)] ∧ @LT.lt Nat _ z c) ∨ (o66 = tabD2 c0 ∧ nl = [] ∧ c = c0 ∧ oc = oc0)))
abbrev T9 : Type := (((((Program × World) × (List Str)) × ((ExcName → Option Value) × (Str → Option Value))) × (((Str → Option Value) × Addr) × (Addr × Obj))) × ((((Obj × Obj) × (List Value)) × (Value × (List Int))) × ((Nat × Nat) × (Int × Tok))))
def U9 (t : T9) : Prop := Claim9 t.1.1.1.1.1 t.1.1.1.1.2 t.1.1.1.2 t.1.1.2.1 t.1.1.2.2 t.1.2.1.1 t.1.2.1.2 t.1.2.2.1 t.1.2.2.2 t.2.1.1.1.1 t.2.1.1.1.2 t.2.1.1.2 t.2.1.2.1 t.2.1.2.2 t.2.2.1.1 t.2.2.1.2 t.2.2.2.1 t.2.2.2.2
@[irreducible] def v9 : T9 := ch9 (by k_extra "NE") U9
theorem spec9 : U9 v9 → ∀ t, U9 t := by with_unfolding_all exact sp9 _ U9
theorem core9 : U9 v9 := by
  refine (let prog := v9.1.1.1.1.1; let w := v9.1.1.1.1.2; let loose := v9.1.1.1.2; let mean := v9.1.1.2.1; let mg := v9.1.1.2.2; let mb := v9.1.2.1.1; let z := v9.1.2.1.2; let c0 := v9.1.2.2.1; let oz := v9.1.2.2.2; let oc0 := v9.2.1.1.1.1; let o66 := v9.2.1.1.1.2; let vs := v9.2.1.1.2; let v0 := v9.2.1.2.1; let ns := v9.2.1.2.2; let D := v9.2.2.1.1; let cD := v9.2.2.1.2; let n := v9.2.2.2.1; let t := v9.2.2.2.2; (?_ : Claim9 prog w loose mean mg mb z c0 oz oc0 o66 vs v0 ns D cD n t))
  clear_value prog w loose mean mg mb z c0 oz oc0 o66 vs v0 ns D cD n t
  intro hi hsz hB hn hz hc0 hD hst
  k_extra "CONC"
  have C1 : CodeHd g' 70 66 := codeHd_of_K X' (by kernel_rfl)
  repeat' (first | ((fail_if_success (with_reducible show wpAny _ _ (exec (Stmt.FunctionDef _ _ _ _ _ _ _ _ _ _) _) _ _ _)); k_extra "STEP1"))
  refine' nestDef_K rfl rfl rfl ?_
  k_dflt (refine' nest_U ?F ?N ?T ?C ?cd ?st ?U ?mm ?cl ?_; (case F => k_asm); (case N => k_asm); (case T => k_asm); (case cd => exact rfl); (case C => kn_code); (case st => assumption); (case U => k_updF); (case mm => k_mem); (case cl => exact rfl); k_whole)
  intro f9 c9 oc9 nl9 ct9 dc9 h9 tk9 F9 N9 hco9 hnl9 lf9 ln9 ls9
  have hCn : AllNe (L' + 1 + 1 + 1) nl9 := agt_ne ln9 (by k_mem)
  have hDc : ∀ q ∈ nl9, @LT.lt Nat _ z q.1 := fun q hq => ln9 q hq (z, oz) (by k_mem)
  have hnn : ∀ q ∈ nl9, AllNe q.1 [(z, oz), (D, W.listOf (v0 :: vs).toArray cD), (c0, oc0), (66, o66)] := fun q hq => ⟨Nat.ne_of_lt (ln9 q hq (z, oz) (by k_mem)), Nat.ne_of_lt (ln9 q hq (D, W.listOf (v0 :: vs).toArray cD) (by k_mem)), Nat.ne_of_lt (ln9 q hq (c0, oc0) (by k_mem)), Nat.ne_of_lt (ln9 q hq (66, o66) (by k_mem)), trivial⟩
  k_lt lf9
  clear ln9 ls9
  k_extra "g"
  obtain ⟨ts, hts⟩ := opq ((c0, oc0) :: (66, tabD2 c9) :: nl9)
  k_extra "h"
  dsimp only [List.cons_append, List.nil_append] at N9
  replace N9 : News g' L' h9 (_ :: _ :: _ :: _ :: _ :: _ :: ts) := hts ▸ N9
  have hCt : AllNe (L' + 1 + 1 + 1) ts := hts ▸ ⟨by omega, by omega, hCn⟩
  have hcm : (c9, oc9) ∈ ts := by
    rw [hts]
    k_extra "g"
    rcases hnl9 with ⟨_, rfl⟩ | ⟨_, _, rfl, rfl⟩ <;> k_extra "h"
    · exact mem_ix 2 rfl
    · exact .head _
  have hc0t : (c0, oc0) ∈ ts := hts ▸ .head _
  have h66t : (66, tabD2 c9) ∈ ts := hts ▸ .tail _ (.head _)
  have hnlt : ∀ q ∈ nl9, q ∈ ts := fun q hq => hts ▸ mem_dr 2 hq
  have hNE : NwNe ([(z, oz), (D, W.listOf (v0 :: vs).toArray cD), (c0, oc0)] ++ [(66, o66)]) nl9 := nwNe_all hnn
  have hSt : (o66 = tabObj #[] ∧ nl9 = [(c9, oc9)] ∧ @LT.lt Nat _ z c9) ∨ (o66 = tabD2 c0 ∧ nl9 = [] ∧ c9 = c0 ∧ oc9 = oc0) := hnl9.imp (fun ⟨a, b⟩ => ⟨a, b, hDc (c9, oc9) (by rw [b]; exact .head _)⟩) id
  k_extra "g"
  obtain ⟨vsc, tc, hoc1, hoc2⟩ := id hco9
  k_extra "h"
  clear hCn hDc hnn hnl9 hst hts
  repeat' (first | ((fail_if_success (with_reducible show wpAny _ _ (call (Value.ref _) [_, _]) _ _ _)); k_extra "STEP1"))
  k_dflt (refine' d2i_use (k := (v0 :: vs).length) (dp := 360) (un := 320) (len := 8) ?C ?b1 ?b2 ?b3 ?b5 (by decide) ?kro (Nat.le_of_ble_eq_true rfl) (Nat.le_of_ble_eq_true rfl) ?k1 ?k2 ?k3 ?k4 ?k5 ?k6 ?_; (case k4 => k_asm); (case k1 => k_asm); (case k2 => k_asm); (case k3 => k_asm); (case k5 => k_asm); (case k6 => first | exact rfl | assumption); (case kro => exact fun p hp => hp); (case b1 => omega); (case b2 => (rw [List.length_cons]; omega)); (case b3 => omega); (case b5 => (rw [List.length_cons] at hsz ⊢; omega)))
  case C =>
    clear hret kG' N1 hNE hSt hnlt
    refine d2i_lv ?_ ?_
    · intro i j ti tj h1 h2 h3 h5
      k_extra "g"
      obtain rfl : j = i + 1 := by omega
      k_extra "h"
      have hy1 := getD_bd hB (k := i.toNat)
      k_extra "CONM"
      k_extra "STEPSD"
      try any_goals (exfalso; omega)
      all_goals k_extra "LV"
      all_goals exact end_pick [] [] ⟨rfl, rfl, _, _, rfl, Bd.one hy1⟩ (fun p hp => hp) (List.forall_mem_nil _) (List.forall_mem_nil _) trivial
    · intro e d u l he hd hu hl ih i j ti tj h1 h2 h3 h5
      have hmid := mid_eq (i := i) (j := j) h1 (by omega)
      have h4 : (v0 :: vs).length ≤ 20 := by rw [List.length_cons] at hsz ⊢; omega
      refine and_8 (mid_facts2 he hd hu hl h1 h2 h3 h4 h5 hmid).1 fun f1 f2 f3 f4 f5 f6 f7 f8 => and_8 (mid_facts2 he hd hu hl h1 h2 h3 h4 h5 hmid).2 fun f9 f10 f11 f12 f13 f14 f15 f16 => ?_
      have hsh : 0 ≤ ((i + j).fdiv (2 ^ Int.toNat 1) - i) * n := Int.mul_nonneg (by omega) (by omega)
      have hsh2 : ((i + j).fdiv (2 ^ Int.toNat 1) - i) * n ≤ 20 * 6 := Int.mul_le_mul (by rw [List.length_cons] at h3 hsz; omega) (by omega) (by omega) (by omega)
      have hsh3 : ((i + j).fdiv (2 ^ Int.toNat 1) - i) * n ≤ l * 6 := Int.mul_le_mul (by omega) (by omega) (by omega) (by omega)
      have hy1 := getD_bd hB (k := i.toNat)
      k_extra "CONM"
      k_extra "STEPSD"
      try any_goals (exfalso; omega)
      all_goals k_extra "LV"
      all_goals (refine end_pick [] [] ⟨rfl, rfl, _, _, rfl, ?_⟩ (fun p hp => hp) (List.forall_mem_nil _) (List.forall_mem_nil _) trivial; first | exact Bd.step (by assumption) (by assumption) hsh hsh3 | exact (Bd.one hy1).mono (by omega))
  intro y' t' h' tk' hb' hb1' hb2' F' N'
  k_extra "STEPSD"
  (try dsimp only)
  k_extra "LV"
  exact end_pick [(66, tabD2 c9)] nl9 ⟨c9, oc9, _, _, rfl, rfl, hco9, hSt⟩ (List.forall_mem_cons.mpr ⟨by k_mem, List.forall_mem_cons.mpr ⟨by k_mem, List.forall_mem_cons.mpr ⟨by k_mem, List.forall_mem_nil _⟩⟩⟩) (List.forall_mem_cons.mpr ⟨by k_mem, List.forall_mem_nil _⟩) (fun q hq => mem_dr 6 (hnlt q hq)) hNE
end
end d2i_con
theorem d2i_con (z c0 : Addr) (oz oc0 o66 : Obj) (vs : List Value) (v0 : Value) (ns : List Int) (D cD : Nat) (n : Int) (t : Tok) (hi : IntsAre (v0 :: vs) ns) (hsz : (v0 :: vs).length ≤ 8) (hB : ∀ y ∈ ns, 0 ≤ y ∧ y < 64) (hn : 1 ≤ n ∧ n ≤ 6) (hz : @LT.lt Nat _ 66 z) (hc0 : @Ne Nat c0 66) (hD : @LT.lt Nat _ 66 D) (hst : o66 = tabObj #[] ∨ (o66 = tabD2 c0 ∧ CodeAs oc0 (Str.ofString "_digits2int.<locals>.inner"))) :
    Con prog w loose mean mg mb 348 250 71 [Value.ref D, Value.int n t] [(z, oz), (D, W.listOf (v0 :: vs).toArray cD), (c0, oc0)] [(66, o66)]
      (fun r mu' nl => ∃ c oc y t', r = .int y t' ∧ mu' = [(66, tabD2 c)] ∧ CodeAs oc (Str.ofString "_digits2int.<locals>.inner") ∧ ((o66 = tabObj #[] ∧ nl = [(c, oc)] ∧ @LT.lt Nat _ z c) ∨ (o66 = tabD2 c0 ∧ nl = [] ∧ c = c0 ∧ oc = oc0))) := ((d2i_con.spec9 d2i_con.core9 (((((prog, w), loose), (mean, mg)), ((mb, z), (c0, oz))), ((((oc0, o66), vs), (v0, ns)), ((D, cD), (n, t)))) : d2i_con.Claim9 prog w loose mean mg mb z c0 oz oc0 o66 vs v0 ns D cD n t)) hi hsz hB hn hz hc0 hD hst
end
end
section
theorem L_T_DG.ln9_T_DG : True := trivial
open L_P L_T_DG
section
variable (prog : Program) (w : World) (loose : List Str) (mean : ExcName → Option Value) (mg mb : Str → Option Value)
theorem kw9_DG_5 : True := by
  (k_with "lT_DG" => fail_if_success (fail_if_success (have h9 := ln9_T_DG)))
  (k_with "binaryOp Mult ref int" => (k_extra "lT_DG"; (k_here; (with_reducible show wpAny _ _ (binaryOp Operator.Mult (Value.ref _) (Value.int _ _)) _ _ _); k_dflt (refine' mul_zero_A ?k1 ?k2 ?k3 ?k4 ?k5 ?_; (case k1 => k_asm); (case k2 => k_asm); (case k3 => k_mem); (case k4 => with_reducible assumption); (case k5 => omega); k_whole); walk_at "TL")))
  (k_with "call builtin:len" => (k_extra "lT_DG"; (k_here; k_dflt (refine' len_A ?k1 ?k2 ?k3 ?k4 ?_; (case k1 => k_asm); (case k2 => k_mem); (case k3 => first | exact List.length_replicate | assumption); (case k4 => omega); k_whole); intro _ _)))
  (k_with "setItem ref int" => (k_extra "lT_DG"; (k_here; k_dflt (refine' set_A ?k1 ?k2 ?k3 ?k4 ?k5 ?k6 ?_; (case k1 => k_asm); (case k2 => k_asm); (case k3 => k_extra "mU"; k_updF); (case k4 => exact (Int.toNat_of_nonneg (by omega)).symm); (case k5 => omega); (case k6 => omega); k_whole); walk_at "TN")))
  (k_with "k_room" => (k_extra "lT_DG"; ((try simp only [depth_under_make, depth_under_kw, depth_in1, depth_deeper, depth_caller]); refine Nat.lt_of_le_of_lt (m := 400) ?_ (by decide); (try dsimp only); omega)))
  (k_with "call ref" => (k_extra "lT_DG"; (k_here; (with_reducible show wpAny _ _ (call (Value.ref _) [Value.int _ _, Value.int _ _, Value.int _ _]) _ _ _); k_dflt (refine' i2d_use ?C ?hi ?b1 ?b2 ?b3 ?b4 ?b5 ?b6 ?b7 ?km ?kU ?kro ?d1 ?d2 ?k1 ?k2 ?k3 ?k4 ?k5 ?k6 ?_; (case C => assumption); (case k4 => k_asm); (case km => k_mem); k_extra "K6"; (case kU => k_extra "mU"; k_updF); (case hi => assumption); (case kro => exact fun p hp => .tail _ hp); (case d1 => (dsimp only; omega)); (case d2 => (dsimp only; omega)); (case b1 => omega); (case b2 => omega); (case b3 => omega); (case b4 => omega); (case b5 => omega); (case b6 => omega); (case b7 => omega); k_whole); walk_at "TN")))
  trivial
theorem putAt_rep {n x : Int} {k : Nat} : putAt (List.replicate k 0) (0 : Int).toNat (digs n x ((k : Int) - 0).toNat) = digs n x k := by
  rw [show ((k : Int) - 0).toNat = k by omega]
  unfold putAt
  rw [digs_length, show (0 : Int).toNat = 0 from rfl, List.take_zero, List.nil_append, Nat.zero_add, List.drop_of_length_le (by simp), List.append_nil]
noncomputable abbrev tabI2 (c : Addr) : Obj := tabObj #[rawInt 95, rawInt 4, .ref c]
theorem mid_facts {e d u l k : Nat} {i j M : Int} (he : e ≤ 2) (hd : d = 366 - 2 * e) (hu : u = 350 - 10 * e) (hl : l ≤ 4) (h1 : 0 ≤ i) (h2 : i < j) (h3 : j ≤ (k : Int)) (h4 : k ≤ 20) (h5 : j ≤ i + ((2 * l : Nat) : Int)) (hm : M = (i + j) / 2) :
    (0 ≤ M ∧ M < j ∧ M ≤ (k : Int) ∧ -2 ^ 64 < M - i ∧ M - i < 2 ^ 64 ∧ 0 ≤ M - i ∧ M - i ≤ 20 ∧ j ≤ M + (l : Int)) ∧ (M ≤ i + (l : Int) ∧ d - 2 + 1 ≤ d ∧ u - 10 + 3 ≤ u ∧ d - 2 ≤ 400 ∧ i.toNat ≤ 100 ∧ i.toNat < k ∧ 0 ≤ j ∧ (¬ i + 1 = j → i < M)) := by
  subst hm
  refine ⟨⟨?_, ?_, ?_, ?_, ?_, ?_, ?_, ?_⟩, ?_, ?_, ?_, ?_, ?_, ?_, ?_, fun _ => ?_⟩ <;> omega
theorem kw9_DG_7 : True := by
  (k_with "k_all" => (k_extra "lT_DG"; exact allNe_to (by with_reducible assumption)))
  (k_with "k_mem" => (k_extra "lT_DG"; first | with_reducible assumption | assumption))
  trivial
end
namespace i2d_con
noncomputable section
def Claim9 (prog : Program) (w : World) (loose : List Str) (mean : ExcName → Option Value) (mg mb : Str → Option Value) (z c0 : Addr) (oz oc0 o59 : Obj) (x n : Int) (t u : Tok) : Prop := ∀ (k : Nat) (hx : 0 ≤ x ∧ x < 2 ^ 20) (hn : 1 ≤ n ∧ n ≤ 6) (hk : k ≤ 8) (hk0 : Hid (x = 0 ↔ k = 0)) (hkx : IEq (((PySem.Builtin.Int.intBits x : Nat) + n - 1 : Int).fdiv n) (k : Int)) (hz : @LT.lt Nat _ 59 z) (hc0 : @Ne Nat c0 59) (hst : o59 = tabObj #[] ∨ (o59 = tabI2 c0 ∧ CodeAs oc0 (Str.ofString "_int2digits.<locals>.inner"))), Con prog w loose mean mg mb 348 250 64 [Value.int x t, Value.int n u] [(z, oz), (c0, oc0)] [(59, o59)]
      (fun r mu' nw => ∃ D c oc nl vs' c', r = .ref D ∧ mu' = [(59, tabI2 c)] ∧ nw = (D, W.listOf vs'.toArray c') :: nl ∧ IntsAre vs' (digs n x k) ∧ @LT.lt Nat _ z D ∧ CodeAs oc (Str.ofString "_int2digits.<locals>.inner") ∧ ((o59 = tabObj #[] ∧ nl = [(c, oc)] ∧ @LT.lt Nat _ D c) ∨ (o59 = tabI2 c0 ∧ nl = [] ∧ c = c0 ∧ oc = oc0)))
abbrev T9 : Type := ((((Program × World) × ((List Str) × (ExcName → Option Value))) × (((Str → Option Value) × (Str → Option Value)) × (Addr × Addr))) × (((Obj × Obj) × (Obj × Int)) × ((Int × Tok) × Tok)))
def U9 (t : T9) : Prop := Claim9 t.1.1.1.1 t.1.1.1.2 t.1.1.2.1 t.1.1.2.2 t.1.2.1.1 t.1.2.1.2 t.1.2.2.1 t.1.2.2.2 t.2.1.1.1 t.2.1.1.2 t.2.1.2.1 t.2.1.2.2 t.2.2.1.1 t.2.2.1.2 t.2.2.2
@[irreducible] def v9 : T9 := ch9 (by k_extra "NE") U9
theorem spec9 : U9 v9 → ∀ t, U9 t := by with_unfolding_all exact sp9 _ U9
def prog := v9.1.1.1.1
def w := v9.1.1.1.2
def loose := v9.1.1.2.1
def mean := v9.1.1.2.2
def mg := v9.1.2.1.1
def mb := v9.1.2.1.2
def z := v9.1.2.2.1
def c0 := v9.1.2.2.2
def oz := v9.2.1.1.1
def oc0 := v9.2.1.1.2
def o59 := v9.2.1.2.1
def x := v9.2.1.2.2
def n := v9.2.2.1.1
def t := v9.2.2.1.2
def u := v9.2.2.2
theorem core9 : Claim9 prog w loose mean mg mb z c0 oz oc0 o59 x n t u := by
  intro k hx hn hk hk0 hkx hz hc0 hst
  k_extra "CONC"
  have C1 : CodeHd g' 63 59 := codeHd_of_K X' (by kernel_rfl)
  repeat' (first | ((fail_if_success (with_reducible show wpAny _ _ (exec (Stmt.FunctionDef _ _ _ _ _ _ _ _ _ _) _) _ _ _)); k_extra "STEP1"))
  refine' nestDef_K rfl rfl rfl ?_
  k_dflt (refine' nest_U ?F ?N ?T ?C ?cd ?st ?U ?mm ?cl ?_; (case F => k_asm); (case N => k_asm); (case T => k_asm); (case cd => exact rfl); (case C => kn_code); (case st => assumption); (case U => k_updF); (case mm => k_mem); (case cl => exact rfl); k_whole)
  rename_i l7 hh1 ll7 D7 hh2 lD7 hh3 oa7 F7 N7 da7
  intro f9 c9 oc9 nl9 ct9 dc9 h9 tk9 F9 N9 hco9 hnl9 lf9 ln9 ls9
  have hDn := agt_ne ln9 (.head _)
  have hCn : AllNe (L' + 1 + 1 + 1) nl9 := agt_ne ln9 (by k_mem)
  have hDc : ∀ q ∈ nl9, @LT.lt Nat _ D7 q.1 := fun q hq => ln9 q hq _ (.head _)
  have hnn : ∀ q ∈ nl9, AllNe q.1 [(z, oz), (c0, oc0), (59, o59)] := fun q hq => ⟨Nat.ne_of_lt (ln9 q hq (z, oz) (by k_mem)), Nat.ne_of_lt (ln9 q hq (c0, oc0) (by k_mem)), Nat.ne_of_lt (ln9 q hq (59, o59) (by k_mem)), trivial⟩
  k_lt lf9
  clear ln9 ls9
  k_extra "g"
  obtain ⟨ts, hts⟩ := opq ((c0, oc0) :: (59, tabI2 c9) :: nl9)
  k_extra "h"
  dsimp only [List.cons_append, List.nil_append] at N9
  replace N9 : News g' L' h9 (_ :: _ :: _ :: _ :: _ :: _ :: _ :: ts) := hts ▸ N9
  have hDt : AllNe D7 ts := hts ▸ ⟨by omega, by omega, hDn⟩
  have hCt : AllNe (L' + 1 + 1 + 1) ts := hts ▸ ⟨by omega, by omega, hCn⟩
  have hcm : (c9, oc9) ∈ ts := by
    rw [hts]
    k_extra "g"
    rcases hnl9 with ⟨_, rfl⟩ | ⟨_, _, rfl, rfl⟩ <;> k_extra "h"
    · exact mem_ix 2 rfl
    · exact .head _
  have hc0t : (c0, oc0) ∈ ts := hts ▸ .head _
  have h59t : (59, tabI2 c9) ∈ ts := hts ▸ .tail _ (.head _)
  have hnlt : ∀ q ∈ nl9, q ∈ ts := fun q hq => hts ▸ mem_dr 2 hq
  have hzD : @LT.lt Nat _ z D7 := by omega
  have hNE : ∀ o, NwNe ([(z, oz), (c0, oc0)] ++ [(59, o59)]) ((D7, o) :: nl9) := fun o => ⟨⟨by omega, by omega, by omega, trivial⟩, nwNe_all hnn⟩
  have hSt : (o59 = tabObj #[] ∧ nl9 = [(c9, oc9)] ∧ @LT.lt Nat _ D7 c9) ∨ (o59 = tabI2 c0 ∧ nl9 = [] ∧ c9 = c0 ∧ oc9 = oc0) := hnl9.imp (fun ⟨a, b⟩ => ⟨a, b, hDc (c9, oc9) (by rw [b]; exact .head _)⟩) id
  k_extra "g"
  obtain ⟨vsc, tc, hoc1, hoc2⟩ := id hco9
  k_extra "h"
  clear N7 F7 hDn hCn hDc hnn hnl9 hst hts
  repeat' (first | ((fail_if_success (with_reducible show wpAny _ _ (call (Value.ref _) [_, _, _]) _ _ _)); k_extra "STEP1"))
  · have hk1 : 1 ≤ k := by have := hk0.out; omega
    k_dflt (refine' i2d_use (n := n) (dp := 360) (un := 320) (len := 8) ?C ?hi ?b1 ?b2 ?b3 ?b4 ?b5 ?b6 ?b7 ?km ?kU ?kro (Nat.le_of_ble_eq_true rfl) (Nat.le_of_ble_eq_true rfl) ?k1 ?k2 ?k3 ?k4 ?k5 ?k6 ?_; (case k4 => k_asm); (case km => k_mem); (case k1 => k_asm); (case k2 => k_asm); (case k3 => k_asm); (case k5 => k_asm); (case k6 => first | exact rfl | assumption); (case kU => k_updF); (case hi => exact ints_rep rfl); (case kro => exact fun p hp => List.mem_of_mem_eraseIdx (i := 1) hp); (case b1 => omega); (case b2 => omega); (case b3 => (rw [List.length_replicate]; omega)); (case b4 => (rw [List.length_replicate]; omega)); (case b5 => omega); (case b6 => omega); (case b7 => omega))
    case C =>
      dsimp only [List.eraseIdx]
      clear hret kG' N1 hk0 hkx hzD hNE hSt hnlt
      refine i2d_lv ?_ ?_
      · intro vs ns c y i j ty ti tj hi h1 h2 h3 h4 h5 h6 h7
        k_extra "g"
        obtain rfl : j = i + 1 := by omega
        k_extra "h"
        k_extra "CONMT"
        repeat' (first | ((fail_if_success (with_reducible show wpAny _ _ (call (Value.ref _) [_, _, _]) _ _ _)); k_extra "STEP1"))
        try any_goals (exfalso; omega)
        all_goals k_extra "LV"
        refine end_pick [(_, _)] [] ⟨rfl, _, _, rfl, ?_⟩ (fun p hp => .tail _ hp) (List.forall_mem_cons.mpr ⟨.head _, List.forall_mem_nil _⟩) (List.forall_mem_nil _) trivial
        rw [show (i + 1 - i).toNat = 1 by omega]
        exact ints_set hi _ (by omega)
      · intro e d u l he hd hu hl ih vs ns c y i j ty ti tj hi h1 h2 h3 h4 h5 h6 h7
        have hln := hi.length
        have hmid := mid_eq (i := i) (j := j) h1 (by omega)
        refine and_8 (mid_facts he hd hu hl h1 h2 h3 h4 h5 hmid).1 fun f1 f2 f3 f4 f5 f6 f7 f8 => and_8 (mid_facts he hd hu hl h1 h2 h3 h4 h5 hmid).2 fun f9 f10 f11 f12 f13 f14 f15 f16 => ?_
        have hsh : 0 ≤ ((i + j).fdiv (2 ^ Int.toNat 1) - i) * n := Int.mul_nonneg (by omega) (by omega)
        have hsh2 : ((i + j).fdiv (2 ^ Int.toNat 1) - i) * n ≤ 20 * 6 := Int.mul_le_mul (by omega) (by omega) (by omega) (by omega)
        k_extra "g"
        obtain ⟨hxa, hxb, hxc, hxd, hxe, hxf⟩ := xor_low ((((i + j).fdiv (2 ^ Int.toNat 1) - i) * n).toNat) h6
        k_extra "h"
        k_extra "CONMT"
        k_extra "STEPSD"
        try any_goals (exfalso; omega)
        all_goals k_extra "LV"
        all_goals (refine end_pick [(_, _)] [] ⟨rfl, _, _, rfl, ?_⟩ (fun p hp => .tail _ hp) (List.forall_mem_cons.mpr ⟨.head _, List.forall_mem_nil _⟩) (List.forall_mem_nil _) trivial)
        · rw [show (j - i).toNat = 1 by omega]
          exact ints_set hi _ (by omega)
        · rename IntsAre _ _ => hvv
          rw [hxa, hxd, two_halves h1 (by omega) (by omega) (by omega) (by omega) h6] at hvv
          exact hvv
    intro r' vs' c' h' tk' hv' hl' F' N'
    rw [putAt_rep] at hv'
    (try dsimp only at N')
    k_extra "STEPSD"
    (try dsimp only)
    k_extra "LV"
    exact end_pick [(59, tabI2 c9)] ((D7, _) :: nl9) (exI_6 D7 c9 oc9 nl9 _ _ ⟨rfl, rfl, rfl, hv', hzD, hco9, hSt⟩) (List.forall_mem_cons.mpr ⟨by k_mem, List.forall_mem_cons.mpr ⟨by k_mem, List.forall_mem_nil _⟩⟩) (List.forall_mem_cons.mpr ⟨by k_mem, List.forall_mem_nil _⟩) (List.forall_mem_cons.mpr ⟨.tail _ (.head _), fun q hq => mem_dr 7 (hnlt q hq)⟩) (hNE _)
  · have hk1 : k = 0 := by have := hk0.out; omega
    subst hk1
    (try dsimp only)
    k_extra "LV"
    exact end_pick [(59, tabI2 c9)] ((D7, _) :: nl9) (exI_6 D7 c9 oc9 nl9 _ _ ⟨rfl, rfl, rfl, .nil, hzD, hco9, hSt⟩) (List.forall_mem_cons.mpr ⟨by k_mem, List.forall_mem_cons.mpr ⟨by k_mem, List.forall_mem_nil _⟩⟩) (List.forall_mem_cons.mpr ⟨by k_mem, List.forall_mem_nil _⟩) (List.forall_mem_cons.mpr ⟨.tail _ (.head _), fun q hq => mem_dr 7 (hnlt q hq)⟩) (hNE _)
end
end i2d_con
section
variable (prog : Program) (w : World) (loose : List Str) (mean : ExcName → Option Value) (mg mb : Str → Option Value)
theorem i2d_con (z c0 : Addr) (oz oc0 o59 : Obj) (x n : Int) (k : Nat) (t u : Tok) (hx : 0 ≤ x ∧ x < 2 ^ 20) (hn : 1 ≤ n ∧ n ≤ 6) (hk : k ≤ 8) (hk0 : Hid (x = 0 ↔ k = 0)) (hkx : IEq (((PySem.Builtin.Int.intBits x : Nat) + n - 1 : Int).fdiv n) (k : Int)) (hz : @LT.lt Nat _ 59 z) (hc0 : @Ne Nat c0 59) (hst : o59 = tabObj #[] ∨ (o59 = tabI2 c0 ∧ CodeAs oc0 (Str.ofString "_int2digits.<locals>.inner"))) :
    Con prog w loose mean mg mb 348 250 64 [Value.int x t, Value.int n u] [(z, oz), (c0, oc0)] [(59, o59)]
      (fun r mu' nw => ∃ D c oc nl vs' c', r = .ref D ∧ mu' = [(59, tabI2 c)] ∧ nw = (D, W.listOf vs'.toArray c') :: nl ∧ IntsAre vs' (digs n x k) ∧ @LT.lt Nat _ z D ∧ CodeAs oc (Str.ofString "_int2digits.<locals>.inner") ∧ ((o59 = tabObj #[] ∧ nl = [(c, oc)] ∧ @LT.lt Nat _ D c) ∨ (o59 = tabI2 c0 ∧ nl = [] ∧ c = c0 ∧ oc = oc0))) := ((i2d_con.spec9 i2d_con.core9 ((((prog, w), (loose, mean)), ((mg, mb), (z, c0))), (((oz, oc0), (o59, x)), ((n, t), u))) : i2d_con.Claim9 prog w loose mean mg mb z c0 oz oc0 o59 x n t u)) k hx hn hk hk0 hkx hz hc0 hst
end
end
section
theorem L_T_DN.ln9_T_DN : True := trivial
open L_P L_T_DN
section
variable (prog : Program) (w : World) (loose : List Str) (mean : ExcName → Option Value) (mg mb : Str → Option Value)
theorem kw9_DN_2 : True := by
  (k_with "lT_DN" => fail_if_success (fail_if_success (have h9 := ln9_T_DN)))
  (k_with "k_all" => (k_extra "lT_DN"; exact allNe_to (by with_reducible assumption)))
  (k_with "k_mem" => (k_extra "lT_DN"; first | with_reducible assumption | assumption))
  trivial
namespace d2i_nil
noncomputable section
def Claim9 (prog : Program) (w : World) (loose : List Str) (mean : ExcName → Option Value) (mg mb : Str → Option Value) (z c0 : Addr) (oz oc0 o66 : Obj) (D cD : Nat) (n : Int) (t : Tok) : Prop := ∀ (hz : @LT.lt Nat _ 66 z) (hc0 : @Ne Nat c0 66) (hD : @LT.lt Nat _ 66 D) (hst : o66 = tabObj #[] ∨ (o66 = tabD2 c0 ∧ CodeAs oc0 (Str.ofString "_digits2int.<locals>.inner"))), Con prog w loose mean mg mb 348 250 71 [Value.ref D, Value.int n t] [(z, oz), (D, W.listOf ([] : List Value).toArray cD), (c0, oc0)] [(66, o66)]
      (fun r mu' nl => ∃ c oc y t', r = .int y t' ∧ mu' = [(66, tabD2 c)] ∧ CodeAs oc (Str.ofString "_digits2int.<locals>.inner") ∧ ((o66 = tabObj #[] ∧ nl = [(c, oc)] ∧ @LT.lt Nat _ z c) ∨ (o66 = tabD2 c0 ∧ nl = [] ∧ c = c0 ∧ oc = oc0)))
abbrev T9 : Type := ((((Program × World) × ((List Str) × (ExcName → Option Value))) × (((Str → Option Value) × (Str → Option Value)) × (Addr × Addr))) × (((Obj × Obj) × (Obj × Nat)) × ((Nat × Int) × Tok)))
def U9 (t : T9) : Prop := Claim9 t.1.1.1.1 t.1.1.1.2 t.1.1.2.1 t.1.1.2.2 t.1.2.1.1 t.1.2.1.2 t.1.2.2.1 t.1.2.2.2 t.2.1.1.1 t.2.1.1.2 t.2.1.2.1 t.2.1.2.2 t.2.2.1.1 t.2.2.1.2 t.2.2.2
@[irreducible] def v9 : T9 := ch9 (by k_extra "NE") U9
theorem spec9 : U9 v9 → ∀ t, U9 t := by with_unfolding_all exact sp9 _ U9
theorem core9 : U9 v9 := by
  refine (let prog := v9.1.1.1.1; let w := v9.1.1.1.2; let loose := v9.1.1.2.1; let mean := v9.1.1.2.2; let mg := v9.1.2.1.1; let mb := v9.1.2.1.2; let z := v9.1.2.2.1; let c0 := v9.1.2.2.2; let oz := v9.2.1.1.1; let oc0 := v9.2.1.1.2; let o66 := v9.2.1.2.1; let D := v9.2.1.2.2; let cD := v9.2.2.1.1; let n := v9.2.2.1.2; let t := v9.2.2.2; (?_ : Claim9 prog w loose mean mg mb z c0 oz oc0 o66 D cD n t))
  clear_value prog w loose mean mg mb z c0 oz oc0 o66 D cD n t
  intro hz hc0 hD hst
  k_extra "CONC"
  have C1 : CodeHd g' 70 66 := codeHd_of_K X' (by kernel_rfl)
  repeat' (first | ((fail_if_success (with_reducible show wpAny _ _ (exec (Stmt.FunctionDef _ _ _ _ _ _ _ _ _ _) _) _ _ _)); k_extra "STEP1"))
  refine' nestDef_K rfl rfl rfl ?_
  k_dflt (refine' nest_U ?F ?N ?T ?C ?cd ?st ?U ?mm ?cl ?_; (case F => k_asm); (case N => k_asm); (case T => k_asm); (case cd => exact rfl); (case C => kn_code); (case st => assumption); (case U => k_updF); (case mm => k_mem); (case cl => exact rfl); k_whole)
  intro f9 c9 oc9 nl9 ct9 dc9 h9 tk9 F9 N9 hco9 hnl9 lf9 ln9 ls9
  have hCn : AllNe (L' + 1 + 1 + 1) nl9 := agt_ne ln9 (by k_mem)
  have hDc : ∀ q ∈ nl9, @LT.lt Nat _ z q.1 := fun q hq => ln9 q hq (z, oz) (by k_mem)
  have hnn : ∀ q ∈ nl9, AllNe q.1 [(z, oz), (D, W.listOf ([] : List Value).toArray cD), (c0, oc0), (66, o66)] := fun q hq => ⟨Nat.ne_of_lt (ln9 q hq (z, oz) (by k_mem)), Nat.ne_of_lt (ln9 q hq (D, W.listOf ([] : List Value).toArray cD) (by k_mem)), Nat.ne_of_lt (ln9 q hq (c0, oc0) (by k_mem)), Nat.ne_of_lt (ln9 q hq (66, o66) (by k_mem)), trivial⟩
  k_lt lf9
  clear ln9 ls9
  k_extra "g"
  obtain ⟨ts, hts⟩ := opq ((c0, oc0) :: (66, tabD2 c9) :: nl9)
  k_extra "h"
  dsimp only [List.cons_append, List.nil_append] at N9
  replace N9 : News g' L' h9 (_ :: _ :: _ :: _ :: _ :: _ :: ts) := hts ▸ N9
  have hCt : AllNe (L' + 1 + 1 + 1) ts := hts ▸ ⟨by omega, by omega, hCn⟩
  have hcm : (c9, oc9) ∈ ts := by
    rw [hts]
    k_extra "g"
    rcases hnl9 with ⟨_, rfl⟩ | ⟨_, _, rfl, rfl⟩ <;> k_extra "h"
    · exact mem_ix 2 rfl
    · exact .head _
  have hc0t : (c0, oc0) ∈ ts := hts ▸ .head _
  have h66t : (66, tabD2 c9) ∈ ts := hts ▸ .tail _ (.head _)
  have hnlt : ∀ q ∈ nl9, q ∈ ts := fun q hq => hts ▸ mem_dr 2 hq
  have hNE : NwNe ([(z, oz), (D, W.listOf ([] : List Value).toArray cD), (c0, oc0)] ++ [(66, o66)]) nl9 := nwNe_all hnn
  have hSt : (o66 = tabObj #[] ∧ nl9 = [(c9, oc9)] ∧ @LT.lt Nat _ z c9) ∨ (o66 = tabD2 c0 ∧ nl9 = [] ∧ c9 = c0 ∧ oc9 = oc0) := hnl9.imp (fun ⟨a, b⟩ => ⟨a, b, hDc (c9, oc9) (by rw [b]; exact .head _)⟩) id
  k_extra "g"
  obtain ⟨vsc, tc, hoc1, hoc2⟩ := id hco9
  k_extra "h"
  clear hCn hDc hnn hnl9 hst hts
  k_extra "STEPSD"
  (try dsimp only)
  k_extra "LV"
  exact end_pick [(66, tabD2 c9)] nl9 ⟨c9, oc9, _, _, rfl, rfl, hco9, hSt⟩ (List.forall_mem_cons.mpr ⟨by k_mem, List.forall_mem_cons.mpr ⟨by k_mem, List.forall_mem_cons.mpr ⟨by k_mem, List.forall_mem_nil _⟩⟩⟩) (List.forall_mem_cons.mpr ⟨by k_mem, List.forall_mem_nil _⟩) (fun q hq => mem_dr 6 (hnlt q hq)) hNE
end
end d2i_nil
theorem d2i_nil (z c0 : Addr) (oz oc0 o66 : Obj) (D cD : Nat) (n : Int) (t : Tok) (hz : @LT.lt Nat _ 66 z) (hc0 : @Ne Nat c0 66) (hD : @LT.lt Nat _ 66 D) (hst : o66 = tabObj #[] ∨ (o66 = tabD2 c0 ∧ CodeAs oc0 (Str.ofString "_digits2int.<locals>.inner"))) :
    Con prog w loose mean mg mb 348 250 71 [Value.ref D, Value.int n t] [(z, oz), (D, W.listOf ([] : List Value).toArray cD), (c0, oc0)] [(66, o66)]
      (fun r mu' nl => ∃ c oc y t', r = .int y t' ∧ mu' = [(66, tabD2 c)] ∧ CodeAs oc (Str.ofString "_digits2int.<locals>.inner") ∧ ((o66 = tabObj #[] ∧ nl = [(c, oc)] ∧ @LT.lt Nat _ z c) ∨ (o66 = tabD2 c0 ∧ nl = [] ∧ c = c0 ∧ oc = oc0))) := ((d2i_nil.spec9 d2i_nil.core9 ((((prog, w), (loose, mean)), ((mg, mb), (z, c0))), (((oz, oc0), (o66, D)), ((cD, n), t))) : d2i_nil.Claim9 prog w loose mean mg mb z c0 oz oc0 o66 D cD n t)) hz hc0 hD hst
theorem d2i_full (z c0 : Addr) (oz oc0 o66 : Obj) (vs : List Value) (ns : List Int) (D cD : Nat) (n : Int) (t : Tok) (hi : IntsAre vs ns) (hsz : vs.length ≤ 8) (hB : ∀ y ∈ ns, 0 ≤ y ∧ y < 64) (hn : 1 ≤ n ∧ n ≤ 6) (hz : @LT.lt Nat _ 66 z) (hc0 : @Ne Nat c0 66) (hD : @LT.lt Nat _ 66 D) (hst : o66 = tabObj #[] ∨ (o66 = tabD2 c0 ∧ CodeAs oc0 (Str.ofString "_digits2int.<locals>.inner"))) :
    Con prog w loose mean mg mb 348 250 71 [Value.ref D, Value.int n t] [(z, oz), (D, W.listOf vs.toArray cD), (c0, oc0)] [(66, o66)]
      (fun r mu' nl => ∃ c oc y t', r = .int y t' ∧ mu' = [(66, tabD2 c)] ∧ CodeAs oc (Str.ofString "_digits2int.<locals>.inner") ∧ ((o66 = tabObj #[] ∧ nl = [(c, oc)] ∧ @LT.lt Nat _ z c) ∨ (o66 = tabD2 c0 ∧ nl = [] ∧ c = c0 ∧ oc = oc0))) := by
  cases vs with
  | nil => exact d2i_nil prog w loose mean mg mb z c0 oz oc0 o66 D cD n t hz hc0 hD hst
  | cons v0 vs => exact d2i_con prog w loose mean mg mb z c0 oz oc0 o66 vs v0 ns D cD n t hi hsz hB hn hz hc0 hD hst
end
end
section
section
variable (prog : Program) (w : World) (loose : List Str) (mean : ExcName → Option Value) (mg mb : Str → Option Value)
section
variable {prog : Program} {w : World} {A : Around} {E : Value → Shared → Prop} {s : Shared} {env : Env} {h₀ : Heap} {L : Addr} {v : Str} {body : List Stmt} {Q : Flow → Shared → Prop} {I : Addr}
theorem fr_know {m : Str → Option Value} {h : Heap} {y : Str} {x : Value} (F : Fr h₀ L h m) (e : m y = some x) : Fr h₀ L h (fun z => if z = y then some x else m z) := by
  have : (fun z => if z = y then some x else m z) = m := by
    funext z
    by_cases q : z = y
    · subst q; rw [if_pos rfl, e]
    · rw [if_neg q]
  rw [this]
  exact F
theorem e_put {m : Str → Option Value} {y1 y2 : Str} {x1 x2 : Value} (e1 : m y1 = some x1) (e2 : m y2 = some x2) : (if y1 = y2 then some x2 else m y1) = some x1 := by
  by_cases q : y1 = y2
  · subst q; rw [if_pos rfl, ← e2, e1]
  · rw [if_neg q, e1]
theorem fr_know2 {m : Str → Option Value} {h : Heap} {y1 y2 : Str} {x1 x2 : Value} (F : Fr h₀ L h m) (e1 : m y1 = some x1) (e2 : m y2 = some x2) : Fr h₀ L h (fun z => if z = y1 then some x1 else if z = y2 then some x2 else m z) :=
  fr_know (m := fun z => if z = y2 then some x2 else m z) (fr_know F e2) (e_put e1 e2)
theorem fr_know3 {m : Str → Option Value} {h : Heap} {y1 y2 y3 : Str} {x1 x2 x3 : Value} (F : Fr h₀ L h m) (e1 : m y1 = some x1) (e2 : m y2 = some x2) (e3 : m y3 = some x3) : Fr h₀ L h (fun z => if z = y1 then some x1 else if z = y2 then some x2 else if z = y3 then some x3 else m z) :=
  fr_know2 (m := fun z => if z = y3 then some x3 else m z) (fr_know F e3) (e_put e1 e3) (e_put e2 e3)
theorem fr_know4 {m : Str → Option Value} {h : Heap} {y1 y2 y3 y4 : Str} {x1 x2 x3 x4 : Value} (F : Fr h₀ L h m) (e1 : m y1 = some x1) (e2 : m y2 = some x2) (e3 : m y3 = some x3) (e4 : m y4 = some x4) : Fr h₀ L h (fun z => if z = y1 then some x1 else if z = y2 then some x2 else if z = y3 then some x3 else if z = y4 then some x4 else m z) :=
  fr_know3 (m := fun z => if z = y4 then some x4 else m z) (fr_know F e4) (e_put e1 e4) (e_put e2 e4) (e_put e3 e4)
theorem fr_know5 {m : Str → Option Value} {h : Heap} {y1 y2 y3 y4 y5 : Str} {x1 x2 x3 x4 x5 : Value} (F : Fr h₀ L h m) (e1 : m y1 = some x1) (e2 : m y2 = some x2) (e3 : m y3 = some x3) (e4 : m y4 = some x4) (e5 : m y5 = some x5) : Fr h₀ L h (fun z => if z = y1 then some x1 else if z = y2 then some x2 else if z = y3 then some x3 else if z = y4 then some x4 else if z = y5 then some x5 else m z) :=
  fr_know4 (m := fun z => if z = y5 then some x5 else m z) (fr_know F e5) (e_put e1 e5) (e_put e2 e5) (e_put e3 e5) (e_put e4 e5)
theorem fr_know6 {m : Str → Option Value} {h : Heap} {y1 y2 y3 y4 y5 y6 : Str} {x1 x2 x3 x4 x5 x6 : Value} (F : Fr h₀ L h m) (e1 : m y1 = some x1) (e2 : m y2 = some x2) (e3 : m y3 = some x3) (e4 : m y4 = some x4) (e5 : m y5 = some x5) (e6 : m y6 = some x6) : Fr h₀ L h (fun z => if z = y1 then some x1 else if z = y2 then some x2 else if z = y3 then some x3 else if z = y4 then some x4 else if z = y5 then some x5 else if z = y6 then some x6 else m z) :=
  fr_know5 (m := fun z => if z = y6 then some x6 else m z) (fr_know F e6) (e_put e1 e6) (e_put e2 e6) (e_put e3 e6) (e_put e4 e6) (e_put e5 e6)
theorem owitTurn_mono {rest rest' : Shared → Prop} (hr : ∀ s, rest s → rest' s) {r : Option Value} {s : Shared} (h : OwitTurn prog w A E env v body Q rest r s) : OwitTurn prog w A E env v body Q rest' r s := by
  cases r with
  | none => exact h
  | some y =>
    refine wpAny_mono (h : wpAny (model prog w) A (storeName env v y) _ E s) (fun _ s₂ h₂ => wpAny_mono h₂ (fun f s₃ h₃ => ?_) fun _ _ z => z) fun _ _ z => z
    cases f with
    | next => exact hr _ h₃
    | cont => exact hr _ h₃
    | brk => exact h₃
    | ret _ => exact h₃
theorem owit_ind {J : Nat → Shared → Prop} (n : Nat)
    (step : ∀ i s', i < n → J i s' → wpAny (model prog w) A (pyNext (.ref I)) (OwitTurn prog w A E env v body Q (fun s'' => J (i + 1) s'')) E s')
    (fin : ∀ s', J n s' → wpAny (model prog w) A (pyNext (.ref I)) (OwitTurn prog w A E env v body Q (fun _ => False)) E s') :
    ∀ f i s', n < i + f → i ≤ n → J i s' → OwitRest prog w A E env v body Q I f s'
  | 0, i, s', h1, h2, _ => absurd h1 (by omega)
  | f + 1, i, s', h1, h2, hJ => by
    refine OwitRest.succ ?_
    by_cases h : i < n
    · exact wpAny_mono (step i s' h hJ) (fun r s₁ hr => owitTurn_mono (fun s₂ h₂ => owit_ind n step fin f (i + 1) s₂ (by omega) (by omega) h₂) hr) fun _ _ z => z
    · obtain rfl : i = n := by omega
      exact wpAny_mono (fin s' hJ) (fun r s₁ hr => owitTurn_mono (fun _ z => z.elim) hr) fun _ _ z => z
def Back (h₀ : Heap) (L : Addr) (s : Shared) (Dr : Drawn → Prop) (I : Addr) (it : Obj) (S : Led → Prop) (J : (Str → Option Value) → Led → Prop) (s3 : Shared) : Prop :=
  ∃ h tk dr m3 led3, s3 = { s with heap := h, toks := tk, drawn := dr } ∧ Dr dr ∧ Fr h₀ L h m3 ∧ News h₀ L h ((I, it) :: led3) ∧ AllNe I led3 ∧ S led3 ∧ J m3 led3
namespace owit_walks
noncomputable section
def Claim9 (prog : Program) (w : World) (A : Around) (E : Value → Shared → Prop) (s : Shared) (env : Env) (h₀ : Heap) (L : Addr) (v : Str) (Q : Flow → Shared → Prop) (I : Addr) (fp : List Addr) (n : Nat) (P : Nat → Value → Prop) (St : Nat → Heap → Prop) (S : Led → Prop) (Dr : Drawn → Prop) (J : Nat → (Str → Option Value) → Led → Prop) (m0 : Str → Option Value) (led0 : Led) : Prop := ∀ (body : List Stmt) (W : Walks prog w A I fp [I] n P St) (hn : n ≤ 60) (hIo : ∀ i h, St i h → ∃ o, h.get? I = some o) (hSt : ∀ i h h' o nw, St i h → h.get? I = some o → h'.get? I = some o → (∀ b o, h₀.get? b = some o → h'.get? b = some o) → News h₀ L h' nw → S nw → St i h') (hIL : L ≠ I) (hI₀ : h₀.get? I = none) (F : Fr h₀ L s.heap m0) (N : News h₀ L s.heap led0) (off : AllNe I led0) (hst : St 0 s.heap) (hS : S led0) (hD : Dr s.drawn) (hJ : J 0 m0 led0) (turn : ∀ i x h tk dr m' led it, P i x → i < n → Dr dr → Fr h₀ L h m' → News h₀ L h ((I, it) :: led) → AllNe I led → S led → J i m' led →
      wpAny (model prog w) A (storeName env v x) (fun _ s₂ => wpAny (model prog w) A (execs body env) (OwitFlow Q (Back h₀ L s Dr I it S (J (i + 1)))) E s₂) E { s with heap := h, toks := tk, drawn := dr }) (fin : ∀ h tk dr m' led, Dr dr → Fr h₀ L h m' → News h₀ L h led → S led → J n m' led → Q .next { s with heap := h, toks := tk, drawn := dr }), OwitRest prog w A E env v body Q I 64 s
abbrev T9 : Type := (((((Program × World) × Around) × ((Value → Shared → Prop) × Shared)) × (((Env × Heap) × Addr) × (Str × (Flow → Shared → Prop)))) × ((((Addr × (List Addr)) × Nat) × ((Nat → Value → Prop) × (Nat → Heap → Prop))) × ((((Led → Prop) × (Drawn → Prop)) × (Nat → (Str → Option Value) → Led → Prop)) × ((Str → Option Value) × Led))))
def U9 (t : T9) : Prop := Claim9 t.1.1.1.1.1 t.1.1.1.1.2 t.1.1.1.2 t.1.1.2.1 t.1.1.2.2 t.1.2.1.1.1 t.1.2.1.1.2 t.1.2.1.2 t.1.2.2.1 t.1.2.2.2 t.2.1.1.1.1 t.2.1.1.1.2 t.2.1.1.2 t.2.1.2.1 t.2.1.2.2 t.2.2.1.1.1 t.2.2.1.1.2 t.2.2.1.2 t.2.2.2.1 t.2.2.2.2
@[irreducible] def v9 : T9 := ch9 (by k_extra "NE") U9
theorem spec9 : U9 v9 → ∀ t, U9 t := by with_unfolding_all exact sp9 _ U9
theorem core9 : U9 v9 := by
  refine (let prog := v9.1.1.1.1.1; let w := v9.1.1.1.1.2; let A := v9.1.1.1.2; let E := v9.1.1.2.1; let s := v9.1.1.2.2; let env := v9.1.2.1.1.1; let h₀ := v9.1.2.1.1.2; let L := v9.1.2.1.2; let v := v9.1.2.2.1; let Q := v9.1.2.2.2; let I := v9.2.1.1.1.1; let fp := v9.2.1.1.1.2; let n := v9.2.1.1.2; let P := v9.2.1.2.1; let St := v9.2.1.2.2; let S := v9.2.2.1.1.1; let Dr := v9.2.2.1.1.2; let J := v9.2.2.1.2; let m0 := v9.2.2.2.1; let led0 := v9.2.2.2.2; (?_ : Claim9 prog w A E s env h₀ L v Q I fp n P St S Dr J m0 led0))
  clear_value prog w A E s env h₀ L v Q I fp n P St S Dr J m0 led0
  intro body W hn hIo hSt hIL hI₀ F N off hst hS hD hJ turn fin
  refine owit_ind (J := fun i s' => ∃ h tk dr m' led, s' = { s with heap := h, toks := tk, drawn := dr } ∧ Dr dr ∧ Fr h₀ L h m' ∧ News h₀ L h led ∧ AllNe I led ∧ S led ∧ J i m' led ∧ St i h) n ?_ ?_ 64 0 s (by omega) (by omega) ⟨s.heap, s.toks, s.drawn, m0, led0, rfl, hD, F, N, off, hS, hJ, hst⟩
  · rintro i s' hi ⟨h, tk, dr, m', led, rfl, hd, F', N', off', hS', hJ', hst'⟩
    refine W.item i _ _ _ hi hst' fun x h2 tk2 hP hst2 hk => ?_
    have F2 := LCg.fr_but F' hk hIL hI₀
    have N2 := LCg.news_but N' hk (allNe_to off')
    k_extra "g"
    obtain ⟨it, hit⟩ := hIo _ _ hst2
    k_extra "h"
    have N3 : News h₀ L h2 ((I, it) :: led) := fun p hp => by
      k_extra "g"
      rcases List.mem_cons.mp hp with rfl | hp <;> k_extra "h"
      · exact ⟨hit, Ne.symm hIL, hI₀⟩
      · exact N2 p hp
    refine wpAny_mono (turn i x h2 tk2 dr m' led it hP hi hd F2 N3 off' hS' hJ') (fun _ s₂ h₂ => wpAny_mono h₂ (fun f s₃ h₃ => ?_) fun _ _ z => z) fun _ _ z => z
    have key : Back h₀ L s Dr I it S (J (i + 1)) s₃ → ∃ h tk dr m' led, s₃ = { s with heap := h, toks := tk, drawn := dr } ∧ Dr dr ∧ Fr h₀ L h m' ∧ News h₀ L h led ∧ AllNe I led ∧ S led ∧ J (i + 1) m' led ∧ St (i + 1) h := by
      rintro ⟨h3, tk3, dr3, m3, led3, rfl, hd3, F3, N3', off3, hS3, hJ3⟩
      have N4 : News h₀ L h3 led3 := fun p hp => N3' p (.tail _ hp)
      exact exI_5 h3 tk3 dr3 m3 led3 ⟨rfl, hd3, F3, N4, off3, hS3, hJ3, hSt _ _ _ it led3 hst2 hit (N3' _ (.head _)).1 F3.keep N4 hS3⟩
    cases f with
    | next => exact key h₃
    | cont => exact key h₃
    | brk => exact h₃
    | ret _ => exact h₃
  · rintro s' ⟨h, tk, dr, m', led, rfl, hd, F', N', off', hS', hJ', hst'⟩
    refine W.done _ _ _ hst' fun h2 tk2 hk => ?_
    exact fin h2 tk2 dr m' led hd (LCg.fr_but F' hk hIL hI₀) (LCg.news_but N' hk (allNe_to off')) hS' hJ'
end
end owit_walks
theorem owit_walks {fp : List Addr} {n : Nat} {P : Nat → Value → Prop} {St : Nat → Heap → Prop} {S : Led → Prop} {Dr : Drawn → Prop} {J : Nat → (Str → Option Value) → Led → Prop} {m0 : Str → Option Value} {led0 : Led}
    (W : Walks prog w A I fp [I] n P St) (hn : n ≤ 60) (hIo : ∀ i h, St i h → ∃ o, h.get? I = some o)
    (hSt : ∀ i h h' o nw, St i h → h.get? I = some o → h'.get? I = some o → (∀ b o, h₀.get? b = some o → h'.get? b = some o) → News h₀ L h' nw → S nw → St i h')
    (hIL : L ≠ I) (hI₀ : h₀.get? I = none) (F : Fr h₀ L s.heap m0) (N : News h₀ L s.heap led0) (off : AllNe I led0) (hst : St 0 s.heap) (hS : S led0) (hD : Dr s.drawn) (hJ : J 0 m0 led0)
    (turn : ∀ i x h tk dr m' led it, P i x → i < n → Dr dr → Fr h₀ L h m' → News h₀ L h ((I, it) :: led) → AllNe I led → S led → J i m' led →
      wpAny (model prog w) A (storeName env v x) (fun _ s₂ => wpAny (model prog w) A (execs body env) (OwitFlow Q (Back h₀ L s Dr I it S (J (i + 1)))) E s₂) E { s with heap := h, toks := tk, drawn := dr })
    (fin : ∀ h tk dr m' led, Dr dr → Fr h₀ L h m' → News h₀ L h led → S led → J n m' led → Q .next { s with heap := h, toks := tk, drawn := dr }) :
    OwitRest prog w A E env v body Q I 64 s := ((owit_walks.spec9 owit_walks.core9 (((((prog, w), A), (E, s)), (((env, h₀), L), (v, Q))), ((((I, fp), n), (P, St)), (((S, Dr), J), (m0, led0)))) : owit_walks.Claim9 prog w A E s env h₀ L v Q I fp n P St S Dr J m0 led0)) body W hn hIo hSt hIL hI₀ F N off hst hS hD hJ turn fin
theorem list_st' {ax : Addr} {its : Array Value} : ∀ i (h h' : Heap) (o : Obj) (nw : Led), (h.IsListIter I ax i ∧ h.IsList ax its) → h.get? I = some o → h'.get? I = some o → (∀ b o, h₀.get? b = some o → h'.get? b = some o) → News h₀ L h' nw → (∃ n, (ax, ({ cls := .type "list", data := .seq its n } : Obj)) ∈ nw) → (h'.IsListIter I ax i ∧ h'.IsList ax its) :=
  fun i h h' o nw st e e' k N S => ⟨by obtain ⟨o', q, r⟩ := st.1; rw [e] at q; cases q; exact ⟨o, e', r⟩, by obtain ⟨n, hm⟩ := S; exact ⟨_, (N _ hm).1, rfl, n, rfl⟩⟩
theorem owit_list {vs : List Value} {ax : Addr} {c : Nat} {Dr : Drawn → Prop} {m0 : Str → Option Value} {led0 : Led} (J : Nat → (Str → Option Value) → Led → Prop)
    (hh : A.handled = none) (F : Fr h₀ L s.heap m0) (N : News h₀ L s.heap led0) (hl : (ax, W.listOf vs.toArray c) ∈ led0) (hn : vs.length ≤ 60) (hD : Dr s.drawn) (hJ : J 0 m0 led0)
    (turn : ∀ i x h tk dr m' led I it, vs[i]? = some x → i < vs.length → Dr dr → Fr h₀ L h m' → News h₀ L h ((I, it) :: led) → AllNe I led → (∀ p ∈ led0, p.1 < I) → (∃ c, (ax, W.listOf vs.toArray c) ∈ led) → J i m' led →
      wpAny (model prog w) A (storeName env v x) (fun _ s₂ => wpAny (model prog w) A (execs body env) (OwitFlow Q (Back h₀ L s Dr I it (fun led => ∃ c, (ax, W.listOf vs.toArray c) ∈ led) (J (i + 1)))) E s₂) E { s with heap := h, toks := tk, drawn := dr })
    (fin : ∀ h tk dr m' led, Dr dr → Fr h₀ L h m' → News h₀ L h led → (∃ c, (ax, W.listOf vs.toArray c) ∈ led) → J vs.length m' led → Q .next { s with heap := h, toks := tk, drawn := dr }) :
    wpAny (model prog w) A (pyIter (.ref ax)) (OwitAt prog w A E env v body Q) E s := by
  have hl' : s.heap.IsList ax vs.toArray := ⟨_, (N _ hl).1, rfl, _, rfl⟩
  have hlt : ax < s.heap.objs.size := Heap.lt_size (N _ hl).1
  refine wpAny_pyIter_list hl' ?_
  refine OwitAt.intro ?_
  have up : ∀ b o, s.heap.get? b = some o → (s.heap.push { cls := .type "list_iterator", data := .fields #[.ref ax, .int 0 0] }).get? b = some o := fun b o e => Heap.get?_push_of_some _ e
  refine owit_walks (S := fun led => ∃ c, (ax, W.listOf vs.toArray c) ∈ led) (J := J) (n := vs.length) (Walks.list hh s.heap.objs.size ax (Nat.ne_of_lt hlt) vs.toArray) hn (fun i h st => by obtain ⟨o, e, _⟩ := st.1; exact ⟨o, e⟩) list_st'
    (Nat.ne_of_lt F.ns.lt) (next_is_new F) (F.keeps up) (N.grown up) (allNe_of fun p hp => Nat.ne_of_lt (Heap.lt_size (N p hp).1)) ⟨⟨_, Heap.get?_push_size _ rfl, rfl, rfl⟩, hl'.push _⟩ ⟨_, hl⟩ hD hJ (fun i x h tk dr m' led it hP hi hd F' N' off hS hJ' => ?_) fin
  exact turn i x h tk dr m' led _ it (by simpa using hP) hi hd F' N' off (fun p hp => Heap.lt_size (N p hp).1) hS hJ'
theorem owit_rev {vs : List Value} {ax R : Addr} {c : Nat} {Dr : Drawn → Prop} {m0 : Str → Option Value} {led0 : Led} (J : Nat → (Str → Option Value) → Led → Prop)
    (hh : A.handled = none) (F : Fr h₀ L s.heap m0) (N : News h₀ L s.heap ((R, revObj ax ((vs.length : Int) - 1)) :: led0)) (hR : AllNe R led0) (hl : (ax, W.listOf vs.toArray c) ∈ led0) (hn : vs.length ≤ 60) (hD : Dr s.drawn) (hJ : J 0 m0 led0)
    (turn : ∀ i x h tk dr m' led it, vs[vs.length - 1 - i]? = some x → i < vs.length → Dr dr → Fr h₀ L h m' → News h₀ L h ((R, it) :: led) → AllNe R led → (∃ c, (ax, W.listOf vs.toArray c) ∈ led) → J i m' led →
      wpAny (model prog w) A (storeName env v x) (fun _ s₂ => wpAny (model prog w) A (execs body env) (OwitFlow Q (Back h₀ L s Dr R it (fun led => ∃ c, (ax, W.listOf vs.toArray c) ∈ led) (J (i + 1)))) E s₂) E { s with heap := h, toks := tk, drawn := dr })
    (fin : ∀ h tk dr m' led, Dr dr → Fr h₀ L h m' → News h₀ L h led → (∃ c, (ax, W.listOf vs.toArray c) ∈ led) → J vs.length m' led → Q .next { s with heap := h, toks := tk, drawn := dr }) :
    wpAny (model prog w) A (pyIter (.ref R)) (OwitAt prog w A E env v body Q) E s := by
  have hl' : s.heap.IsList ax vs.toArray := ⟨_, (N _ (.tail _ hl)).1, rfl, _, rfl⟩
  have hr := N _ (.head _)
  have hit : s.heap.IsRevIter R ax ((vs.length : Int) - 1) := ⟨_, hr.1, rfl, rfl⟩
  have hne : ax ≠ R := allNe_to hR _ hl
  refine wpAny_pyIter_revIter hit ?_
  refine OwitAt.intro ?_
  have W0 := Walks.listRev (prog := prog) (w := w) hh R ax hne vs.toArray
  have hsz : vs.toArray.size = vs.length := by simp
  rw [hsz] at W0
  refine owit_walks (S := fun led => ∃ c, (ax, W.listOf vs.toArray c) ∈ led) (J := J) (n := vs.length) W0 hn (fun i h st => by obtain ⟨o, e, _⟩ := st.2.1; exact ⟨o, e⟩) ?_
    (Ne.symm hr.2.1) hr.2.2 F (fun p hp => N p (.tail _ hp)) hR ⟨Nat.zero_le _, by simpa using hit, hl'⟩ ⟨_, hl⟩ hD hJ (fun i x h tk dr m' led it hP hi hd F' N' off hS hJ' => ?_) fin
  · rintro i h h' o nw st e e' k N2 ⟨n2, hm⟩
    refine ⟨st.1, ?_, ⟨_, (N2 _ hm).1, rfl, n2, rfl⟩⟩
    k_extra "g"
    obtain ⟨o', q, r⟩ := st.2.1
    k_extra "h"
    rw [e] at q; cases q
    exact ⟨o, e', r⟩
  · exact turn i x h tk dr m' led it (by simpa using hP) hi hd F' N' off hS hJ'
end
end
end
section
theorem L_T_DP.ln9_T_DP : True := trivial
open L_T_DP
section
variable (prog : Program) (w : World) (loose : List Str) (mean : ExcName → Option Value) (mg mb : Str → Option Value)
theorem kw9_DP_1 : True := by
  (k_with "lT_DP" => fail_if_success (fail_if_success (have h9 := ln9_T_DP)))
  (k_with "omega" => (k_extra "lT_DP"; first | (with_reducible assumption) | lia | omega +splitDisjunctions))
  trivial
noncomputable def dval (N : Nat) : List Int → Int
  | [] => 0
  | d :: r => d + 2 ^ N * dval N r
theorem dval_digs (n : Int) : ∀ (k : Nat) (x : Int), dval n.toNat (digs n x (k + 1)) = x
  | 0, x => by simp [digs, dval]
  | k + 1, x => by
    rw [digs_two]
    show x % 2 ^ n.toNat + 2 ^ n.toNat * dval n.toNat (digs n (x / 2 ^ n.toNat) (k + 1)) = x
    rw [dval_digs n k]
    exact Int.emod_add_mul_ediv x _
theorem digs_bd (n : Int) : ∀ (k : Nat) (x : Int), 0 ≤ x → x < 2 ^ (n.toNat * (k + 1)) → ∀ d ∈ digs n x (k + 1), 0 ≤ d ∧ d < 2 ^ n.toNat
  | 0, x, h1, h2, d, hd => by
    rw [show digs n x (0 + 1) = [x] from rfl, List.mem_singleton] at hd
    subst hd
    rw [Nat.zero_add, Nat.mul_one] at h2
    exact ⟨h1, h2⟩
  | k + 1, x, h1, h2, d, hd => by
    have hp : (0 : Int) < 2 ^ n.toNat := Int.pow_pos (by omega)
    rw [digs_two] at hd
    k_extra "g"
    rcases List.mem_cons.mp hd with rfl | hd <;> k_extra "h"
    · exact ⟨Int.emod_nonneg _ (by omega), Int.emod_lt_of_pos _ hp⟩
    · refine digs_bd n k (x / 2 ^ n.toNat) (Int.ediv_nonneg h1 (by omega)) ?_ d hd
      refine Int.ediv_lt_of_lt_mul hp ?_
      rw [← Int.pow_add]
      rw [show n.toNat * (k + 1) + n.toNat = n.toNat * (k + 1 + 1) by rw [Nat.mul_add n.toNat (k + 1) 1]; omega]
      exact h2
theorem div_turn {N : Nat} {b v d r : Int} (hb : 0 < b) (hr : r = v.fmod b) : (r * 2 ^ N + d).fmod b = (d + 2 ^ N * v).fmod b := by
  subst hr
  rw [Int.fmod_eq_emod_of_nonneg _ (by omega), Int.fmod_eq_emod_of_nonneg _ (by omega), Int.fmod_eq_emod_of_nonneg _ (by omega)]
  rw [Int.add_comm d, Int.mul_comm (2 ^ N) v]
  rw [Int.add_emod, Int.mul_emod, Int.emod_emod_of_dvd _ (Int.dvd_refl _), ← Int.mul_emod, ← Int.add_emod]
theorem div_bds {b r d : Int} {N : Nat} (hb : 0 < b) (hb2 : b < 64) (hN : N ≤ 6) (h1 : 0 ≤ r) (h2 : r < b) (h3 : 0 ≤ d) (h4 : d < 2 ^ N) :
    0 ≤ r * 2 ^ N + d ∧ r * 2 ^ N + d < 2 ^ 20 ∧ 0 ≤ (r * 2 ^ N + d).fdiv b ∧ (r * 2 ^ N + d).fdiv b < 64 ∧ 0 ≤ (r * 2 ^ N + d).fmod b ∧ (r * 2 ^ N + d).fmod b < b := by
  have hp : (0 : Int) < 2 ^ N := Int.pow_pos (by omega)
  have hq : (2 : Int) ^ N ≤ 2 ^ 6 := two_mono hN
  generalize (2 : Int) ^ N = B at *
  have a1 : 0 ≤ r * B := Int.mul_nonneg h1 (by omega)
  have a2 : r * B ≤ 63 * 64 := Int.mul_le_mul (by omega) (by omega) (by omega) (by omega)
  have a3 : (r + 1) * B ≤ b * B := Int.mul_le_mul_of_nonneg_right (by omega) (by omega)
  rw [Int.add_mul, Int.one_mul] at a3
  have a4 : r * B + d < b * B := by omega
  rw [Int.fdiv_eq_ediv_of_nonneg _ (by omega), Int.fmod_eq_emod_of_nonneg _ (by omega)]
  refine ⟨by omega, by omega, Int.ediv_nonneg (by omega) (by omega), ?_, Int.emod_nonneg _ (by omega), Int.emod_lt_of_pos _ hb⟩
  have a5 : (r * B + d) / b < B := Int.ediv_lt_of_lt_mul hb (by rw [Int.mul_comm B b]; exact a4)
  omega
theorem drop_turn {ds : List Int} {k i : Nat} (hk : ds.length = k) (hi : i < k) (N : Nat) : ∃ d, ds[k - 1 - i]? = some d ∧ d ∈ ds ∧ dval N (ds.drop (k - (i + 1))) = d + 2 ^ N * dval N (ds.drop (k - i)) := by
  have h : k - 1 - i < ds.length := by omega
  refine ⟨ds[k - 1 - i], List.getElem?_eq_getElem h, List.getElem_mem h, ?_⟩
  rw [show k - (i + 1) = k - 1 - i by omega, List.drop_eq_getElem_cons h, show k - 1 - i + 1 = k - i by omega]
  rfl
theorem ints_get {vs : List Value} {ns : List Int} (h : IntsAre vs ns) : ∀ (k : Nat) (x : Value), vs[k]? = some x → ∃ y t, x = .int y t ∧ ns[k]? = some y := by
  induction h with
  | nil => intro k x hk; simp at hk
  | cons z tz r ih =>
    intro k x hk
    cases k with
    | zero => exact ⟨z, tz, by simpa using hk.symm, rfl⟩
    | succ k => simpa using ih k x (by simpa using hk)
theorem ints_app {vs : List Value} {ns : List Int} {y : Int} {t : Tok} (h : IntsAre vs ns) : IntsAre (vs ++ [.int y t]) (ns ++ [y]) := by
  induction h with
  | nil => exact .cons y t .nil
  | cons z tz r ih => exact .cons z tz ih
theorem ints_rev {vs : List Value} {ns : List Int} (h : IntsAre vs ns) : IntsAre vs.reverse ns.reverse := by
  induction h with
  | nil => exact .nil
  | cons z tz r ih => rw [List.reverse_cons, List.reverse_cons]; exact ints_app ih
end
end
section
open L_P
section
variable (prog : Program) (w : World) (loose : List Str) (mean : ExcName → Option Value) (mg mb : Str → Option Value)
noncomputable abbrev tup2 (a b : Int) (t u : Tok) : Obj := { cls := .type "tuple", data := .seq #[.int a t, .int b u] }
theorem d21_con (z : Addr) (oz : Obj) (a b n : Int) (t u v : Tok) (ha : 0 ≤ a ∧ a < 2 ^ 20) (hb : 0 < b ∧ b < 64) (hn : 1 ≤ n ∧ n ≤ 6) :
    Con prog w loose mean mg mb 348 250 50 [Value.int a t, Value.int b u, Value.int n v] [(z, oz)] []
      (fun r mu' nw => ∃ T t1 t2, r = .ref T ∧ mu' = [] ∧ nw = [(T, tup2 (a.fdiv b) (a.fmod b) t1 t2)] ∧ @LT.lt Nat _ z T) := by
  have hbits := PySem.intBits_le_64 (k := a) (by omega) (by omega)
  k_extra "CON"
  k_extra "STEPSD"
  have hzl : @LT.lt Nat _ z h'.objs.size := Heap.lt_size (N' _ (.head _)).1
  k_extra "LV"
  refine end_cut3 0 1 2 ?_ ?_ ?_
  · dsimp only [List.take, List.drop]
    exact ⟨_, _, _, rfl, rfl, rfl, hzl⟩
  · k_extra "SUBS"
  · k_extra "NES3"
end
end
section
section
variable (prog : Program) (w : World) (loose : List Str) (mean : ExcName → Option Value) (mg mb : Str → Option Value)
noncomputable abbrev QI : Str := Str.ofString "_int2digits.<locals>.inner"
noncomputable abbrev QD : Str := Str.ofString "_digits2int.<locals>.inner"
section
variable {prog : Program} {w : World} {loose : List Str} {mean : ExcName → Option Value} {mg mb : Str → Option Value} {dp un : Nat} {big : Led} {g : Obj → Led}
  {gd : Option (List Code)} {cn : Str} {cs : Scope} {a : Addr} {ccd : Value} {cl : List (Str × Addr)} {outer : List Env} {A₀ : Around} {base h₀ : Heap} {L z c : Addr} {oz oc : Obj} {m : Str → Option Value} {s : Shared} {Q E : Value → Shared → Prop}
theorem i2d_u {o59 oc0 : Obj} {c0 : Addr} {x n : Int} {k : Nat} {t u : Tok} (hkx : IEq (((PySem.Builtin.Int.intBits x : Nat) + n - 1 : Int).fdiv n) (k : Int)) (hk0 : Hid (x = 0 ↔ k = 0)) (hx : 0 ≤ x ∧ x < 2 ^ 20) (hn : 1 ≤ n ∧ n ≤ 6) (hk8 : k ≤ 8) (hz : (z, oz) ∈ big) (hzl : @LT.lt Nat _ 59 z) (hm0 : (c0, oc0) ∈ big) (hl0 : @Ne Nat c0 59) (hst : o59 = tabObj #[] ∨ (o59 = tabI2 c0 ∧ CodeAs oc0 QI)) (hU : UpdF 59 o59 big g) (hdp : dp ≤ 348) (hu : un ≤ 250) (B : Below A₀ base outer h₀) (F : Fr h₀ L s.heap m) (X : (kf.heap_1 w.params).In h₀) (N : News h₀ L s.heap big) (T : Top topProg loose mean mg mb h₀) (hk : cs.kind = .function)
    (ret : ∀ D c oc nl vs' c' h' tk', IntsAre vs' (digs n x k) → Fr h₀ L h' m → News h₀ L h' ((D, W.listOf vs'.toArray c') :: (g (tabI2 c) ++ nl)) → @LT.lt Nat _ z D → CodeAs oc QI → NwNe big ((D, W.listOf vs'.toArray c') :: nl) → ((o59 = tabObj #[] ∧ nl = [(c, oc)] ∧ @LT.lt Nat _ D c) ∨ (o59 = tabI2 c0 ∧ nl = [] ∧ c = c0 ∧ oc = oc0)) → Q (.ref D) { s with heap := h', toks := tk' }) :
    wpAny (model prog w) (ktrTop dp un gd cn cs L a ccd cl outer) (call (.ref 64) [.int x t, .int n u]) Q E s := by
  refine wpAny_call <| con_use1 (i2d_con prog w loose mean mg mb z c0 oz oc0 o59 x n k t u hx hn hk8 hk0 hkx hzl hl0 hst) hdp hu B F X N T hk hU (List.forall_mem_cons.mpr ⟨hz, List.forall_mem_cons.mpr ⟨hm0, List.forall_mem_nil _⟩⟩) (fun r o' more nw h' tk' F' N' hR hn => ?_) fun r mu' nw hR => ?_
  · k_extra "g"
    refine ex_6 hR fun D c oc nl vs' c' k_ => and_7 k_ fun r1_ e r2_ hv hl1 ho hd => ?_
    clear k_ hR
    subst r1_
    subst r2_
    k_extra "h"
    k_extra "g"
    obtain ⟨rfl, rfl⟩ := one_eq e
    k_extra "h"
    exact ret D c oc nl vs' c' h' tk' hv F' (fun q hq => N' q ((List.mem_cons.mp hq).elim (fun h => h ▸ .head _) fun h => .tail _ (List.mem_append.mpr (List.mem_append.mp h).symm))) hl1 ho hn hd
  · k_extra "g"
    refine ex_6 hR fun D c oc nl vs' c' k_ => and_3 k_ fun _ e _ => ?_
    clear k_ hR
    k_extra "h"
    exact ⟨_, _, e⟩
theorem d21_u {x b n : Int} {t u v : Tok} (hx : 0 ≤ x ∧ x < 2 ^ 20) (hb : 0 < b ∧ b < 64) (hn : 1 ≤ n ∧ n ≤ 6) (hz : (z, oz) ∈ big) (hdp : dp ≤ 348) (hu : un ≤ 250) (B : Below A₀ base outer h₀) (F : Fr h₀ L s.heap m) (X : (kf.heap_1 w.params).In h₀) (N : News h₀ L s.heap big) (T : Top topProg loose mean mg mb h₀) (hk : cs.kind = .function)
    (ret : ∀ D t1 t2 h' tk', Fr h₀ L h' m → News h₀ L h' ((D, tup2 (x.fdiv b) (x.fmod b) t1 t2) :: big) → @LT.lt Nat _ z D → Q (.ref D) { s with heap := h', toks := tk' }) :
    wpAny (model prog w) (ktrTop dp un gd cn cs L a ccd cl outer) (call (.ref 50) [.int x t, .int b u, .int n v]) Q E s := by
  refine wpAny_call <| con_use0 (d21_con prog w loose mean mg mb z oz x b n t u v hx hb hn) hdp hu B F X N T hk (fun p hp => by rw [List.mem_singleton.mp hp]; exact hz) fun r mu' nw h' tk' F' N' hR hn => ?_
  k_extra "g"
  refine ex_3 hR fun D t1 t2 k_ => and_4 k_ fun r1_ _ r2_ hl => ?_
  clear k_ hR
  subst r1_
  subst r2_
  k_extra "h"
  exact ret D t1 t2 h' tk' F' N' hl
theorem d2i_u {o66 oc0 : Obj} {n : Int} {vs : List Value} {ns : List Int} {D cD c0 : Nat} {t : Tok} (hi : IntsAre vs ns) (hsz : vs.length ≤ 8) (hB : ∀ y ∈ ns, 0 ≤ y ∧ y < 64) (hn : 1 ≤ n ∧ n ≤ 6) (hz : (z, oz) ∈ big) (hzl : @LT.lt Nat _ 66 z) (hm : (D, W.listOf vs.toArray cD) ∈ big) (hD : @LT.lt Nat _ 66 D) (hm0 : (c0, oc0) ∈ big) (hl0 : @Ne Nat c0 66) (hst : o66 = tabObj #[] ∨ (o66 = tabD2 c0 ∧ CodeAs oc0 QD)) (hU : UpdF 66 o66 big g) (hdp : dp ≤ 348) (hu : un ≤ 250) (B : Below A₀ base outer h₀) (F : Fr h₀ L s.heap m) (X : (kf.heap_1 w.params).In h₀) (N : News h₀ L s.heap big) (T : Top topProg loose mean mg mb h₀) (hk : cs.kind = .function)
    (ret : ∀ c oc nl y t' h' tk', Fr h₀ L h' m → News h₀ L h' (g (tabD2 c) ++ nl) → CodeAs oc QD → NwNe big nl → ((o66 = tabObj #[] ∧ nl = [(c, oc)] ∧ @LT.lt Nat _ z c) ∨ (o66 = tabD2 c0 ∧ nl = [] ∧ c = c0 ∧ oc = oc0)) → Q (.int y t') { s with heap := h', toks := tk' }) :
    wpAny (model prog w) (ktrTop dp un gd cn cs L a ccd cl outer) (call (.ref 71) [.ref D, .int n t]) Q E s := by
  refine wpAny_call <| con_use1 (d2i_full prog w loose mean mg mb z c0 oz oc0 o66 vs ns D cD n t hi hsz hB hn hzl hl0 hD hst) hdp hu B F X N T hk hU (List.forall_mem_cons.mpr ⟨hz, List.forall_mem_cons.mpr ⟨hm, List.forall_mem_cons.mpr ⟨hm0, List.forall_mem_nil _⟩⟩⟩) (fun r o' more nw h' tk' F' N' hR hn => ?_) fun r mu' nw hR => ?_
  · k_extra "g"
    refine ex_4 hR fun c oc y t' k_ => and_4 k_ fun r1_ e ho hd => ?_
    clear k_ hR
    subst r1_
    k_extra "h"
    k_extra "g"
    obtain ⟨rfl, rfl⟩ := one_eq e
    k_extra "h"
    exact ret c oc nw y t' h' tk' F' (fun q hq => N' q (List.mem_append.mpr (List.mem_append.mp hq).symm)) ho hn hd
  · k_extra "g"
    refine ex_4 hR fun c oc y t' k_ => and_3 k_ fun _ e _ => ?_
    clear k_ hR
    k_extra "h"
    exact ⟨_, _, e⟩
theorem con_use2n {D U f : Nat} {vs : List Value} {ro : Led} {R : Value → Led → Led → Prop} {P P2 : Addr} {o o2 : Obj} {g : Obj → Led} {g2 : Obj → Obj → Led} (C : Con prog w loose mean mg mb D U f vs ro [(P, o), (P2, o2)] R) (hdp : dp ≤ D) (hu : un ≤ U) (B : Below A₀ base outer h₀) (F : Fr h₀ L s.heap m) (X : (kf.heap_1 w.params).In h₀) (N : News h₀ L s.heap big) (T : Top topProg loose mean mg mb h₀) (hk : cs.kind = .function)
    (hU : UpdF P o big g) (hU2 : ∀ o, UpdF P2 o2 (g o) (g2 o)) (hro : ∀ p ∈ ro, p ∈ big) (hPP : P ≠ P2)
    (ret : ∀ r o' o2' nw h' tk', Fr h₀ L h' m → News h₀ L h' (nw ++ g2 o' o2') → R r [(P, o'), (P2, o2')] nw → NwNe big nw → Q r { s with heap := h', toks := tk' })
    (hP : ∀ r mu' nw, R r mu' nw → ∃ o' o2', mu' = [(P, o'), (P2, o2')]) :
    codeAny (model prog w) (ktrTop dp un gd cn cs L a ccd cl outer) (.call (.ref f) ⟨vs, []⟩) (fun r s' => match r with | .ok (.ret v) => Q v s' | .ok _ => False | .error e => E e s') s := by
  k_extra "g"
  obtain ⟨pre, post, rfl, hg, h1, h2⟩ := hU.split
  k_extra "h"
  have key : ∀ o', (P2, o2) ∈ pre ++ (P, o) :: post ∧ ∀ o2', ∀ p ∈ g2 o' o2', p ∈ [(P, o'), (P2, o2')] ++ (pre ++ post).filter (fun p => p.1 ≠ P2) := fun o' => by
    k_extra "g"
    obtain ⟨pre2, post2, e, hg2, h3, h4⟩ := (hU2 o').split
    k_extra "h"
    rw [hg] at e
    have hm : (P2, o2) ∈ pre ++ (P, o') :: post := by rw [e]; simp
    constructor
    · simp only [List.mem_append, List.mem_cons] at hm ⊢
      k_extra "g"
      rcases hm with h | h | h <;> k_extra "h"
      · exact .inl h
      · exact absurd (congrArg Prod.fst h).symm hPP
      · exact .inr (.inr h)
    · intro o2' p hp
      rw [hg2] at hp
      simp only [List.mem_append, List.mem_cons, List.mem_filter, List.not_mem_nil, or_false]
      have old : ∀ p, p ∈ pre2 ∨ p ∈ post2 → p.1 ≠ P2 → (p = (P, o') ∨ p = (P2, o2')) ∨ (p ∈ pre ∨ p ∈ post) ∧ (decide (p.1 ≠ P2) = true) := fun p hp hn => by
        have hm : p ∈ pre ++ (P, o') :: post := by
          rw [e]; simp only [List.mem_append, List.mem_cons]
          exact hp.elim .inl fun h => .inr (.inr h)
        simp only [List.mem_append, List.mem_cons] at hm
        k_extra "g"
        rcases hm with h | h | h <;> k_extra "h"
        · exact .inr ⟨.inl h, decide_eq_true hn⟩
        · exact .inl (.inl h)
        · exact .inr ⟨.inr h, decide_eq_true hn⟩
      k_extra "g"
      rcases List.mem_append.mp hp with hp | hp <;> k_extra "h"
      · exact old p (.inl hp) (h3 p hp)
      · rcases List.mem_cons.mp hp with rfl | hp
        · exact .inl (.inr rfl)
        · exact old p (.inr hp) (h4 p hp)
  refine con_use (rest := (pre ++ post).filter (fun p => p.1 ≠ P2)) C hdp hu B F X N T hk hro (fun p hp => ?_) (fun p hp => ?_) (fun p hp q hq => ?_) fun r mu' nw h' tk' F' N' hR hn => ?_
  · rcases List.mem_cons.mp hp with rfl | hp
    · simp
    · rw [List.mem_singleton.mp hp]; exact (key o).1
  · have := (List.mem_filter.mp hp).1
    exact (List.mem_append.mp this).elim (fun h => List.mem_append.mpr (.inl h)) fun h => List.mem_append.mpr (.inr (.tail _ h))
  · obtain ⟨hp, hn⟩ := List.mem_filter.mp hp
    k_extra "g"
    rcases List.mem_cons.mp hq with rfl | hq <;> k_extra "h"
    · exact (List.mem_append.mp hp).elim (h1 p) (h2 p)
    · rw [List.mem_singleton.mp hq]; exact of_decide_eq_true hn
  · obtain ⟨o', o2', rfl⟩ := hP _ _ _ hR
    refine ret r o' o2' nw h' tk' F' (fun p hp => N' p ?_) hR hn
    k_extra "g"
    rcases List.mem_append.mp hp with hp | hp <;> k_extra "h"
    · exact List.mem_append.mpr (.inl hp)
    · exact List.mem_append.mpr (.inr ((key o').2 o2' p hp))
end
theorem code_ne {h₀ h : Heap} {L c P : Addr} {oc : Obj} {q : Str} {led : Led} {ps : Array Value} (N : News h₀ L h led) (m1 : (c, oc) ∈ led) (ho : CodeAs oc q) (m2 : (P, tabObj ps) ∈ led) (hp : ∀ t, ps[1]? ≠ some (.str q t)) : @Ne Nat c P := fun e => by
  k_extra "g"
  obtain ⟨vs, t, hd, hv⟩ := ho
  k_extra "h"
  have e1 := (N _ m1).1
  have e2 := (N _ m2).1
  dsimp only at e1 e2
  have e3 : h.get? c = h.get? P := congrArg h.get? e
  rw [e1, e2] at e3
  rw [Option.some.inj e3] at hd
  cases hd
  exact hp t hv
section
variable {prog : Program} {w : World} {loose : List Str} {mean : ExcName → Option Value} {mg mb : Str → Option Value} {D U f : Nat} {vs : List Value} {ro mu : Led} {R : Value → Led → Led → Prop}
theorem con_same {ro2 : Led} (C : Con prog w loose mean mg mb D U f vs ro mu R) (hm : ∀ r mu' nw, R r mu' nw → mu' = mu) (h1 : ∀ p ∈ ro ++ mu, p ∈ ro2) (h2 : ∀ p ∈ ro2, p ∈ ro ++ mu) : Con prog w loose mean mg mb D U f vs ro2 [] (fun r mu' nw => mu' = [] ∧ R r mu nw) := by
  intro gd cn cs a ccd cl outer A₀ base h₀ L m s Q E B F X N T hk ret
  refine C gd cn cs a ccd cl outer A₀ base h₀ L m s Q E B F X (fun p hp => N p (by rw [List.append_nil]; exact h1 p hp)) T hk fun r mu' nw h' tk' F' N' k fr hR => ?_
  have e := hm _ _ _ hR
  subst e
  refine ret r [] nw h' tk' F' (fun p hp => N' p ?_) (fun b o hb _ => ?_) fr ⟨rfl, hR⟩
  · rw [List.append_nil] at hp
    exact List.mem_append.mpr ((List.mem_append.mp hp).imp id (h2 p))
  · by_cases q : b ∈ adr mu'
    · obtain ⟨p, hp, rfl⟩ := List.mem_map.mp q
      have e1 := (N p (by rw [List.append_nil]; exact h1 p (List.mem_append.mpr (.inr hp)))).1
      rw [hb] at e1
      cases e1
      exact (N' p (List.mem_append.mpr (.inr (List.mem_append.mpr (.inr hp))))).1
    · exact k b o hb q
theorem con_ro {ro2 : Led} (C : Con prog w loose mean mg mb D U f vs ro mu R) (h1 : ∀ p ∈ ro, p ∈ ro2) (h2 : ∀ p ∈ ro2, p ∈ ro) : Con prog w loose mean mg mb D U f vs ro2 mu R := by
  intro gd cn cs a ccd cl outer A₀ base h₀ L m s Q E B F X N T hk ret
  exact C gd cn cs a ccd cl outer A₀ base h₀ L m s Q E B F X (fun p hp => N p (List.mem_append.mpr ((List.mem_append.mp hp).imp (h1 p) id))) T hk fun r mu' nw h' tk' F' N' k fr hR =>
    ret r mu' nw h' tk' F' (fun p hp => N' p (List.mem_append.mpr ((List.mem_append.mp hp).imp id fun h => List.mem_append.mpr ((List.mem_append.mp h).imp (h2 p) id)))) k fr hR
end
end
end
section
theorem L_T_DV.ln9_T_DV : True := trivial
open L_P L_V L_T_DV
section
variable (prog : Program) (w : World) (loose : List Str) (mean : ExcName → Option Value) (mg mb : Str → Option Value)
section
variable {prog : Program} {w : World} {A : Around} {E : Value → Shared → Prop} {s : Shared} {h₀ : Heap} {L D : Addr} {m : Str → Option Value} {news : Led} {g : Obj → Led}
theorem rev_A {vs : List Value} {n : Nat} {Q : Value → Shared → Prop} (F : Fr h₀ L s.heap m) (N : News h₀ L s.heap news) (U : UpdF D (W.listOf vs.toArray n) news g) (hsz : vs.length ≤ 1000)
    (h : ∀ h', Fr h₀ L h' m → News h₀ L h' (g (W.listOf vs.reverse.toArray n)) → Q .none { s with heap := h' }) : wpAny (model prog w) A (call (.builtin "list.reverse") [.ref D]) Q E s :=
  kl_reverse F N (by simp) (upd_of U) (by rw [PySem.sizeLine_eq]; simp; omega) h
end
theorem kw9_DV_2 : True := by
  (k_with "lT_DV" => fail_if_success (fail_if_success (have h9 := ln9_T_DV)))
  (k_with "k_all" => (k_extra "lT_DV"; exact allNe_to (by with_reducible assumption)))
  (k_with "k_mem" => (k_extra "lT_DV"; first | with_reducible assumption | assumption))
  trivial
theorem allNe_alt {a : Addr} {l : Led} (h : AllLt a l) : AllNe a l := allNe_of fun _ hp => Nat.ne_of_lt (alt_lt h hp)
theorem perm_6 {a b c d e f q : Addr × Obj} {l : Led} (h : q ∈ a :: b :: f :: c :: d :: e :: l) : q ∈ a :: b :: c :: d :: e :: f :: l := by
  simp only [List.mem_cons] at h ⊢
  rcases h with h | h | h | h | h | h | h <;> simp only [h, true_or, or_true]
abbrev DivR (z c1 c2 : Addr) (oc1 oc2 o59 o66 : Obj) (rr : Int) (r : Value) (mu' nw : Led) : Prop := ∃ T q t1 t2 c1' oc1' c2' oc2' nl, r = .ref T ∧ mu' = [(59, tabI2 c1'), (66, tabD2 c2')] ∧ nw = (T, tup2 q rr t1 t2) :: nl ∧ @LT.lt Nat _ z T ∧ CodeAs oc1' QI ∧ CodeAs oc2' QD ∧
        ((o59 = tabObj #[] ∧ nl = [(c2', oc2'), (c1', oc1')] ∧ @LT.lt Nat _ z c1' ∧ @LT.lt Nat _ c1' c2' ∧ @LT.lt Nat _ c2' T) ∨ (o59 = tabI2 c1 ∧ o66 = tabD2 c2 ∧ nl = [] ∧ c1' = c1 ∧ c2' = c2 ∧ oc1' = oc1 ∧ oc2' = oc2))
namespace dpos_con
noncomputable section
def Claim9 (prog : Program) (w : World) (loose : List Str) (mean : ExcName → Option Value) (mg mb : Str → Option Value) (z c1 c2 : Addr) (oz oc1 oc2 o59 o66 : Obj) (xa b : Int) (k : Nat) (t u : Tok) : Prop := ∀ (hz : @LT.lt Nat _ 66 z) (hl1 : @Ne Nat c1 59) (hl11 : @Ne Nat c1 66) (hl2 : @Ne Nat c2 59) (hl22 : @Ne Nat c2 66) (hst : (o59 = tabObj #[] ∧ o66 = tabObj #[]) ∨ (o59 = tabI2 c1 ∧ o66 = tabD2 c2 ∧ CodeAs oc1 QI ∧ CodeAs oc2 QD)) (ha : 0 ≤ xa ∧ xa < 2 ^ 20) (hb : 0 < b ∧ b < 64) (hn : 1 ≤ PySem.Builtin.Int.intBits b ∧ PySem.Builtin.Int.intBits b ≤ 6) (hk8 : k ≤ 8) (hk0 : Hid (xa = 0 ↔ k = 0)) (hkx : IEq (((PySem.Builtin.Int.intBits xa : Nat) + (PySem.Builtin.Int.intBits b : Nat) - 1 : Int).fdiv (PySem.Builtin.Int.intBits b : Nat)) (k : Int)) (hdd : Hid (∀ d ∈ digs (PySem.Builtin.Int.intBits b : Nat) xa k, 0 ≤ d ∧ d < 2 ^ PySem.Builtin.Int.intBits b)), Con prog w loose mean mg mb 345 230 78 [Value.int xa t, Value.int b u] [(z, oz), (c1, oc1), (c2, oc2)] [(59, o59), (66, o66)]
      (DivR z c1 c2 oc1 oc2 o59 o66 (xa.fmod b))
abbrev T9 : Type := (((((Program × World) × (List Str)) × ((ExcName → Option Value) × (Str → Option Value))) × ((((Str → Option Value) × Addr) × Addr) × (Addr × Obj))) × ((((Obj × Obj) × Obj) × (Obj × Int)) × ((Int × Nat) × (Tok × Tok))))
def U9 (t : T9) : Prop := Claim9 t.1.1.1.1.1 t.1.1.1.1.2 t.1.1.1.2 t.1.1.2.1 t.1.1.2.2 t.1.2.1.1.1 t.1.2.1.1.2 t.1.2.1.2 t.1.2.2.1 t.1.2.2.2 t.2.1.1.1.1 t.2.1.1.1.2 t.2.1.1.2 t.2.1.2.1 t.2.1.2.2 t.2.2.1.1 t.2.2.1.2 t.2.2.2.1 t.2.2.2.2
@[irreducible] def v9 : T9 := ch9 (by k_extra "NE") U9
theorem spec9 : U9 v9 → ∀ t, U9 t := by with_unfolding_all exact sp9 _ U9
theorem core9 : U9 v9 := by
  refine (let prog := v9.1.1.1.1.1; let w := v9.1.1.1.1.2; let loose := v9.1.1.1.2; let mean := v9.1.1.2.1; let mg := v9.1.1.2.2; let mb := v9.1.2.1.1.1; let z := v9.1.2.1.1.2; let c1 := v9.1.2.1.2; let c2 := v9.1.2.2.1; let oz := v9.1.2.2.2; let oc1 := v9.2.1.1.1.1; let oc2 := v9.2.1.1.1.2; let o59 := v9.2.1.1.2; let o66 := v9.2.1.2.1; let xa := v9.2.1.2.2; let b := v9.2.2.1.1; let k := v9.2.2.1.2; let t := v9.2.2.2.1; let u := v9.2.2.2.2; (?_ : Claim9 prog w loose mean mg mb z c1 c2 oz oc1 oc2 o59 o66 xa b k t u))
  clear_value prog w loose mean mg mb z c1 c2 oz oc1 oc2 o59 o66 xa b k t u
  intro hz hl1 hl11 hl2 hl22 hst ha hb hn hk8 hk0 hkx hdd
  have hst0 := Hid.mk hst
  have hst1 : o59 = tabObj #[] ∨ (o59 = tabI2 c1 ∧ CodeAs oc1 QI) := hst.imp (fun h => h.1) fun h => ⟨h.1, h.2.2.1⟩
  have hst2 : o66 = tabObj #[] ∨ (o66 = tabD2 c2 ∧ CodeAs oc2 QD) := hst.imp (fun h => h.2) fun h => ⟨h.2.1, h.2.2.2⟩
  k_extra "CON"
  repeat' (first | ((fail_if_success (with_reducible show wpAny _ _ (call (Value.ref 64) _) _ _ _)); k_extra "STEP1"))
  k_dflt (refine' i2d_u (c0 := c1) ?hkx ?hk0 ?hx ?hn ?h8 ?hz ?hzl ?hm0 ?hl0 hst1 ?hU (Nat.le_of_ble_eq_true rfl) (Nat.le_of_ble_eq_true rfl) ?k1 ?k2 ?k3 ?k4 ?k5 ?k6 ?_; (case k4 => k_asm); (case hkx => with_reducible assumption); (case hk0 => with_reducible assumption); (case k1 => k_asm); (case k2 => k_asm); (case k3 => k_asm); (case k5 => k_asm); (case k6 => first | exact rfl | assumption); (case hz => exact .head _); (case hzl => omega); (case hm0 => k_mem); (case hl0 => omega); (case hU => k_updF); (case hx => omega); (case h8 => omega); (case hn => omega))
  intro dD cC oC nl1 vS nN h5 t5 hv F5 N5 lzD hco1 hnw1 hnl1
  have hln := hv.length
  have hlk : (digs (PySem.Builtin.Int.intBits b : Nat) xa k).length = k := digs_length _ _ _
  have hsz : vS.length ≤ 8 := by omega
  k_extra "g"
  obtain ⟨ts, hts⟩ := opq ((c1, oc1) :: (c2, oc2) :: (59, tabI2 cC) :: nl1)
  k_extra "h"
  have N6 : News g' L' h5 ((dD, W.listOf vS.toArray nN) :: (z, oz) :: (66, o66) :: ts) := fun q hq => N5 q (perm_6 (hts ▸ hq))
  have h66t : AllNe 66 ts := hts ▸ ⟨by omega, by omega, (by decide : @Ne Nat 59 66), allNe_of fun q hq => Ne.symm (nwNe_to hnw1.2 q hq (66, o66) (by k_mem))⟩
  have m1 : (c1, oc1) ∈ ts := hts ▸ .head _
  have m2 : (c2, oc2) ∈ ts := hts ▸ .tail _ (.head _)
  have m59 : (59, tabI2 cC) ∈ ts := hts ▸ mem_ix 2 rfl
  have mnl : ∀ q ∈ nl1, q ∈ ts := fun q hq => hts ▸ mem_dr 3 hq
  clear N5 N1 hst1 hst hts
  repeat' (first | ((fail_if_success (with_reducible show wpAny _ _ (pyIter _) (OwitAt _ _ _ _ _ _ _ _) _ _)); k_extra "STEP1"))
  rename_i h4 h3 qL h2 lQ h1 rR h0I F1 N9 lR
  have hqt : AllNe qL ts := allNe_alt lQ.2.2.2
  refine owit_rev (vs := vS) (ax := dD) (c := nN) (Dr := fun d => d = s.drawn) (led0 := ((qL, W.listOf ([] : List Value).toArray 0) :: (dD, W.listOf vS.toArray nN) :: (z, oz) :: (66, o66) :: ts)) (fun i m led => ∃ r tr qs nq qc tn tb, m (Str.ofString "r") = some (.int r tr) ∧ m (Str.ofString "n") = some (.int (PySem.Builtin.Int.intBits b : Nat) tn) ∧ m (Str.ofString "b") = some (.int b tb) ∧ m (Str.ofString "q_digits") = some (.ref qL) ∧
      led = (qL, W.listOf qs.toArray qc) :: (dD, W.listOf vS.toArray nN) :: (z, oz) :: (66, o66) :: ts ∧ IntsAre qs nq ∧ nq.length = i ∧ (∀ y ∈ nq, 0 ≤ y ∧ y < 64) ∧ Hid (r = (dval ((PySem.Builtin.Int.intBits b : Nat) : Int).toNat ((digs (PySem.Builtin.Int.intBits b : Nat) xa k).drop (k - i))).fmod b) ∧ 0 ≤ r ∧ r < b) rfl F1 N9 ?hR ?hl ?hn rfl ?hJ ?turn ?fin
  case hR => exact allNe_alt lR
  case hl => k_mem
  case hn => omega
  case hJ =>
    refine exI_7 0 _ [] [] 0 _ _ ⟨rfl, rfl, rfl, rfl, rfl, .nil, rfl, (fun _ h => nomatch h), Hid.mk ?_, by omega, by omega⟩
    rw [Nat.sub_zero, List.drop_of_length_le (by omega)]
    simp [dval]
  case turn =>
    intro i x h tk dr m' led it hx hi hdr F2 N2 off hS hJ
    refine ex_7 hJ ?_; clear hJ; intro r tr qs nq qc tn tb hJ
    refine and_11 hJ ?_; clear hJ; intro e1 e2 e3 e4 hled hq hql hqb hr hr0 hr1
    rw [hled] at N2 off
    clear hled
    subst hdr
    have F3 := fr_know4 F2 e1 e2 e3 e4
    clear F2 e1 e2 e3 e4 hS off F1 N9
    k_extra "g"
    obtain ⟨d, td, rfl, hd⟩ := ints_get hv _ _ hx
    rw [hln, hlk] at hd
    obtain ⟨d', hd', hdm, hdv⟩ := drop_turn hlk (show i < k by omega) ((PySem.Builtin.Int.intBits b : Nat) : Int).toNat
    obtain rfl : d' = d := Option.some.inj (hd'.symm.trans hd)
    have hdb := hdd.out _ hdm
    obtain ⟨b1, b2, b3, b4, b5, b6⟩ := div_bds (N := ((PySem.Builtin.Int.intBits b : Nat) : Int).toNat) hb.1 hb.2 (by omega) hr0 hr1 hdb.1 hdb.2
    k_extra "h"
    have hrn := div_turn (N := ((PySem.Builtin.Int.intBits b : Nat) : Int).toNat) (d := d') hb.1 hr.out
    rw [← hdv] at hrn
    have hrn' := Hid.mk hrn
    have hqlen := hq.length
    clear hrn hdv hdm hd hd' hx
    (try dsimp only)
    (first | (refine opq_turn ?_; intro QT9 hT9) | (refine opq_V ?_; intro QT9 hT9))
    k_extra "STEPSD"
    rename News g' L' _ _ => NB
    refine exI_5 _ _ _ _ _ ⟨rfl, rfl, by assumption, fun p hp => NB p (.tail _ hp), ?_, ⟨_, by k_mem⟩, exI_7 _ _ _ (nq ++ [_]) _ _ _ ⟨rfl, rfl, rfl, rfl, rfl, ints_app hq, ?_, ?_, hrn', b5, b6⟩⟩
    · exact allNe_alt lR
    · rw [List.length_append, hql]
      rfl
    · intro y hy
      k_extra "g"
      rcases List.mem_append.mp hy with hy | hy <;> k_extra "h"
      · exact hqb y hy
      · rw [List.mem_singleton.mp hy]
        exact ⟨b3, b4⟩
  case fin =>
    intro h tk dr m' led hdr F2 N2 hS hJ
    refine ex_7 hJ ?_; clear hJ; intro r tr qs nq qc tn tb hJ
    refine and_11 hJ ?_; clear hJ; intro e1 e2 e3 e4 hled hq hql hqb hr hr0 hr1
    rw [hled] at N2
    clear hled
    subst hdr
    have F3 := fr_know4 F2 e1 e2 e3 e4
    have hqr := ints_rev hq
    have hqlen := hqr.length
    have hrlen : nq.reverse.length = nq.length := List.length_reverse
    have hqB : ∀ y ∈ nq.reverse, 0 ≤ y ∧ y < 64 := fun y hy => hqb y (List.mem_reverse.mp hy)
    have hqs : qs.length ≤ 8 := by rw [← List.length_reverse (as := qs)]; omega
    have hrv : r = xa.fmod b := by
      rw [hr.out, show k - vS.length = 0 by omega, List.drop_zero]
      cases k with
      | zero => rw [hk0.out.mpr rfl]; rfl
      | succ k => rw [dval_digs]
    clear F2 e1 e2 e3 e4 hS F1 N9 hr
    (try dsimp only)
    repeat' (first | ((fail_if_success (with_reducible show wpAny _ _ (call (Value.ref 71) _) _ _ _)); k_extra "STEP1"))
    k_dflt (refine' d2i_u (c0 := c2) hqr ?hs hqB ?hn (.head _) ?hzl ?hm ?hD ?hm0 ?hl0 hst2 ?hU (Nat.le_of_ble_eq_true rfl) (Nat.le_of_ble_eq_true rfl) ?k1 ?k2 ?k3 ?k4 ?k5 ?k6 ?_; (case k4 => k_asm); (case k1 => k_asm); (case k2 => k_asm); (case k3 => k_asm); (case k5 => k_asm); (case k6 => first | exact rfl | assumption); (case hzl => omega); (case hm => k_mem); (case hm0 => k_mem); (case hl0 => omega); (case hD => omega); (case hU => k_updF); (case hs => omega); (case hn => omega))
    intro c9 oc9 nl2 y9 t9 h8 tk9 F8 N8 hco2 hnw2 hnl2
    dsimp only [List.cons_append] at N8
    k_extra "STEPSD"
    subst hrv
    k_extra "LV"
    rename_i h7 D9 h6 lD9 F9 N9
    have mz : ∀ q ∈ ts, q ∈ ts ++ nl2 := fun q hq => List.mem_append_left _ hq
    have zD : @LT.lt Nat _ z D9 := alt_lt lD9 (mem_ix 2 rfl)
    have cq : @LT.lt Nat _ cC qL ∨ cC = c1 := hnl1.imp (fun h => alt_lt (o := oC) lQ.2.2.2 (mnl _ (by rw [h.2.1]; exact .head _))) fun h => h.2.2.1
    refine end_pick [(59, tabI2 cC), (66, tabD2 c9)] ((D9, tup2 y9 (xa.fmod b) t9 tr) :: (nl2 ++ nl1)) (exI_9 D9 _ _ _ cC oC c9 oc9 (nl2 ++ nl1) ⟨rfl, rfl, rfl, zD, hco1, hco2, ?st⟩) ?ro ?mu ?nw ?ne
    case st =>
      k_extra "g"
      rcases hst0.out with ⟨a1, a2⟩ | ⟨a1, a2, _, _⟩ <;> k_extra "h"
      · rcases hnl1 with ⟨_, b1, b2⟩ | ⟨b1, _⟩
        · rcases hnl2 with ⟨_, d1, d2⟩ | ⟨d1, _⟩
          · refine .inl ⟨a1, by rw [b1, d1]; rfl, Nat.lt_trans lzD b2, Nat.lt_trans ((cq.resolve_right (fun e => ?_))) d2, alt_lt (o := oc9) lD9 (.tail _ (.tail _ (.tail _ (.tail _ (List.mem_append_right _ (by rw [d1]; exact .head _))))))⟩
            exact nwNe_to hnw1.2 (cC, oC) (by rw [b1]; exact .head _) (c1, oc1) (by k_mem) e.symm
          · exact absurd (a2.symm.trans d1) (by simp [tabObj])
        · exact absurd (a1.symm.trans b1) (by simp [tabObj])
      · rcases hnl1 with ⟨b1, _⟩ | ⟨_, b1, b2, b3⟩
        · exact absurd (b1.symm.trans a1) (by simp [tabObj])
        · rcases hnl2 with ⟨d1, _⟩ | ⟨_, d1, d2, d3⟩
          · exact absurd (d1.symm.trans a2) (by simp [tabObj])
          · exact .inr ⟨a1, a2, by rw [b1, d1]; rfl, b2, d2, b3, d3⟩
    case ro => exact List.forall_mem_cons.mpr ⟨mem_ix 3 rfl, List.forall_mem_cons.mpr ⟨mem_dr 5 (mz _ m1), List.forall_mem_cons.mpr ⟨mem_dr 5 (mz _ m2), List.forall_mem_nil _⟩⟩⟩
    case mu => exact List.forall_mem_cons.mpr ⟨mem_dr 5 (mz _ m59), List.forall_mem_cons.mpr ⟨mem_ix 4 rfl, List.forall_mem_nil _⟩⟩
    case nw => exact List.forall_mem_cons.mpr ⟨.head _, fun q hq => .tail _ (.tail _ (.tail _ (.tail _ (.tail _ ((List.mem_append.mp hq).elim (fun h => List.mem_append_right _ h) fun h => mz _ (mnl _ h))))))⟩
    case ne =>
      have al : ∀ (x : Addr) (o : Obj), (x, o) ∈ ts → @Ne Nat x D9 := fun x o h => alt_ne (o := o) lD9 (mem_dr 4 (mz _ h))
      refine ⟨⟨Nat.ne_of_lt zD, al _ _ m1, al _ _ m2, al _ _ m59, alt_ne (o := tabD2 c9) lD9 (mem_ix 3 rfl), trivial⟩, nwNe_all fun q hq => (List.mem_append.mp hq).elim (fun h => ?_) fun h => allNe_of fun r hr => nwNe_to hnw1.2 q h r hr⟩
      have bl := nwNe_to hnw2 q h
      exact ⟨bl (z, oz) (mem_ix 2 rfl), bl (c1, oc1) (mem_dr 4 m1), bl (c2, oc2) (mem_dr 4 m2), bl (59, tabI2 cC) (mem_dr 4 m59), bl (66, o66) (mem_ix 3 rfl), trivial⟩
end
end dpos_con
theorem dpos_con (z c1 c2 : Addr) (oz oc1 oc2 o59 o66 : Obj) (xa b : Int) (k : Nat) (t u : Tok) (hz : @LT.lt Nat _ 66 z) (hl1 : @Ne Nat c1 59) (hl11 : @Ne Nat c1 66) (hl2 : @Ne Nat c2 59) (hl22 : @Ne Nat c2 66) (hst : (o59 = tabObj #[] ∧ o66 = tabObj #[]) ∨ (o59 = tabI2 c1 ∧ o66 = tabD2 c2 ∧ CodeAs oc1 QI ∧ CodeAs oc2 QD)) (ha : 0 ≤ xa ∧ xa < 2 ^ 20) (hb : 0 < b ∧ b < 64) (hn : 1 ≤ PySem.Builtin.Int.intBits b ∧ PySem.Builtin.Int.intBits b ≤ 6) (hk8 : k ≤ 8) (hk0 : Hid (xa = 0 ↔ k = 0)) (hkx : IEq (((PySem.Builtin.Int.intBits xa : Nat) + (PySem.Builtin.Int.intBits b : Nat) - 1 : Int).fdiv (PySem.Builtin.Int.intBits b : Nat)) (k : Int)) (hdd : Hid (∀ d ∈ digs (PySem.Builtin.Int.intBits b : Nat) xa k, 0 ≤ d ∧ d < 2 ^ PySem.Builtin.Int.intBits b)) :
    Con prog w loose mean mg mb 345 230 78 [Value.int xa t, Value.int b u] [(z, oz), (c1, oc1), (c2, oc2)] [(59, o59), (66, o66)]
      (DivR z c1 c2 oc1 oc2 o59 o66 (xa.fmod b)) := ((dpos_con.spec9 dpos_con.core9 (((((prog, w), loose), (mean, mg)), (((mb, z), c1), (c2, oz))), ((((oc1, oc2), o59), (o66, xa)), ((b, k), (t, u)))) : dpos_con.Claim9 prog w loose mean mg mb z c1 c2 oz oc1 oc2 o59 o66 xa b k t u)) hz hl1 hl11 hl2 hl22 hst ha hb hn hk8 hk0 hkx hdd
end
end
section
theorem L_T_U2.ln9_T_U2 : True := trivial
open L_T_U2
section
variable (prog : Program) (w : World) (loose : List Str) (mean : ExcName → Option Value) (mg mb : Str → Option Value)
theorem kw9_U2_1 : True := by
  (k_with "lT_U2" => fail_if_success (fail_if_success (have h9 := ln9_T_U2)))
  (k_with "omega" => (k_extra "lT_U2"; first | (with_reducible assumption) | lia | omega +splitDisjunctions))
  trivial
def PrimeOk (b : Int) : Prop := b = 13 ∨ b = 19 ∨ b = 31 ∨ b = 37
theorem bits_13 : PySem.Builtin.Int.intBits 13 = 4 := by decide +kernel
theorem bits_19 : PySem.Builtin.Int.intBits 19 = 5 := by decide +kernel
theorem bits_31 : PySem.Builtin.Int.intBits 31 = 5 := by decide +kernel
theorem bits_37 : PySem.Builtin.Int.intBits 37 = 6 := by decide +kernel
theorem primeOk_bits {b : Int} (h : PrimeOk b) : 0 < b ∧ b < 64 ∧ 4 ≤ PySem.Builtin.Int.intBits b ∧ PySem.Builtin.Int.intBits b ≤ 6 := by
  k_extra "g"
  rcases h with rfl | rfl | rfl | rfl <;> k_extra "h"
  · rw [bits_13]; decide
  · rw [bits_19]; decide
  · rw [bits_31]; decide
  · rw [bits_37]; decide
theorem idm_q : ∀ (bx : Fin 21) (nb : Fin 7), 4 ≤ nb.val → (bx.val + nb.val - 1) / nb.val ≤ 8 ∧ (bx.val = 0 ↔ (bx.val + nb.val - 1) / nb.val = 0) ∧ (((bx.val : Nat) : Int) + ((nb.val : Nat) : Int) - 1) / ((nb.val : Nat) : Int) = (((bx.val + nb.val - 1) / nb.val : Nat) : Int) ∧ bx.val ≤ nb.val * ((bx.val + nb.val - 1) / nb.val) := by decide +kernel
theorem idm_facts {x b : Int} (hb : PrimeOk b) (hx : 0 ≤ x ∧ x < 2 ^ 20) : ∃ k : Nat, k ≤ 8 ∧ Hid (x = 0 ↔ k = 0) ∧
    IEq (((PySem.Builtin.Int.intBits x : Nat) + (PySem.Builtin.Int.intBits b : Nat) - 1 : Int).fdiv (PySem.Builtin.Int.intBits b : Nat)) (k : Int) ∧
    Hid (∀ d ∈ digs (PySem.Builtin.Int.intBits b : Nat) x k, 0 ≤ d ∧ d < 2 ^ ((PySem.Builtin.Int.intBits b : Nat) : Int).toNat) := by
  k_extra "g"
  obtain ⟨_, _, h4, h6⟩ := primeOk_bits hb
  k_extra "h"
  have hb20 : PySem.Builtin.Int.intBits x ≤ 20 := PySem.intBits_le_iff.mpr (by omega)
  have hle : x.natAbs < 2 ^ PySem.Builtin.Int.intBits x := PySem.intBits_le_iff.mp (Nat.le_refl _)
  have hz : PySem.Builtin.Int.intBits x = 0 ↔ x = 0 := by
    constructor
    · intro h
      rw [h] at hle
      omega
    · rintro rfl
      rfl
  generalize PySem.Builtin.Int.intBits x = bx at *
  generalize PySem.Builtin.Int.intBits b = nb at *
  have key := idm_q ⟨bx, by omega⟩ ⟨nb, by omega⟩ (show 4 ≤ nb by omega)
  refine ⟨(bx + nb - 1) / nb, ?_, Hid.mk ?_, IEq.mk ?_, Hid.mk ?_⟩
  · exact key.1
  · rw [← hz]
    exact key.2.1
  · rw [Int.fdiv_eq_ediv_of_nonneg _ (by omega)]
    exact key.2.2.1
  · intro d hd
    cases hk : (bx + nb - 1) / nb with
    | zero =>
      rw [hk] at hd
      exact nomatch hd
    | succ k =>
      rw [hk] at hd
      refine digs_bd (nb : Int) k x hx.1 ?_ d hd
      have e : bx ≤ ((nb : Nat) : Int).toNat * (k + 1) := by
        rw [Int.toNat_natCast]
        rw [← hk]
        exact key.2.2.2
      have e2 := Nat.pow_le_pow_right (n := 2) (by omega) e
      have e3 : ((2 : Int) ^ (((nb : Nat) : Int).toNat * (k + 1))) = ((2 ^ (((nb : Nat) : Int).toNat * (k + 1)) : Nat) : Int) := by simp
      rw [e3]
      omega
theorem inv_mod {x b : Int} (hb : 0 < b) : b + -((-x - 1).fmod b) - 1 = x.fmod b := by
  rw [Int.fmod_eq_emod_of_nonneg _ (by omega), Int.fmod_eq_emod_of_nonneg _ (by omega)]
  have h1 := Int.emod_nonneg (-x - 1) (show b ≠ 0 by omega)
  have h2 := Int.emod_lt_of_pos (-x - 1) hb
  have h3 := Int.emod_add_mul_ediv (-x - 1) b
  generalize (-x - 1) % b = r at *
  generalize (-x - 1) / b = q at *
  have e : x = (b + -r - 1) + b * (-q - 1) := by
    rw [Int.mul_sub, Int.mul_neg, Int.mul_one]
    omega
  rw [e, Int.add_mul_emod_self_left, Int.emod_eq_of_lt (by omega) (by omega)]
section
variable {prog : Program} {w : World} {loose : List Str} {mean : ExcName → Option Value} {mg mb : Str → Option Value} {dp un D U f : Nat} {big : Led} {g : Obj → Led} {g2 : Obj → Obj → Led}
  {gd : Option (List Code)} {cn : Str} {cs : Scope} {a : Addr} {ccd : Value} {cl : List (Str × Addr)} {outer : List Env} {A₀ : Around} {base h₀ : Heap} {L z c c2 : Addr} {oz oc oc2 : Obj} {m : Str → Option Value} {s : Shared} {Q E : Value → Shared → Prop}
def Div1 (prog : Program) (w : World) (loose : List Str) (mean : ExcName → Option Value) (mg mb : Str → Option Value) (D U f : Nat) (x b r : Int) : Prop := ∀ (z : Addr) (oz : Obj) (t u : Tok), @LT.lt Nat _ 66 z →
    Con prog w loose mean mg mb D U f [Value.int x t, Value.int b u] [(z, oz)] [(59, tabObj #[]), (66, tabObj #[])]
      (fun v mu' nw => ∃ T q t1 t2 c1 oc1 c2 oc2, v = .ref T ∧ mu' = [(59, tabI2 c1), (66, tabD2 c2)] ∧ nw = [(T, tup2 q r t1 t2), (c2, oc2), (c1, oc1)] ∧ @LT.lt Nat _ z c1 ∧ @LT.lt Nat _ c1 c2 ∧ @LT.lt Nat _ c2 T ∧ CodeAs oc1 QI ∧ CodeAs oc2 QD)
def Div2 (prog : Program) (w : World) (loose : List Str) (mean : ExcName → Option Value) (mg mb : Str → Option Value) (D U f : Nat) (x b r : Int) : Prop := ∀ (z c1 c2 : Addr) (oz oc1 oc2 : Obj) (t u : Tok), @LT.lt Nat _ 66 z → @LE.le Nat _ c1 z → @LE.le Nat _ c2 z → CodeAs oc1 QI → CodeAs oc2 QD →
    Con prog w loose mean mg mb D U f [Value.int x t, Value.int b u] [(z, oz), (c1, oc1), (59, tabI2 c1), (c2, oc2), (66, tabD2 c2)] []
      (fun v mu' nw => ∃ T q t1 t2, v = .ref T ∧ mu' = [] ∧ nw = [(T, tup2 q r t1 t2)] ∧ @LT.lt Nat _ z T)
theorem div_u2 {x b r : Int} {t u : Tok} (C : Div2 prog w loose mean mg mb D U f x b r) (hz : (z, oz) ∈ big) (hzl : @LT.lt Nat _ 66 z) (ht1 : (59, tabI2 c) ∈ big) (hc1 : (c, oc) ∈ big) (ht2 : (66, tabD2 c2) ∈ big) (hc2 : (c2, oc2) ∈ big) (hl1 : @LE.le Nat _ c z) (hl2 : @LE.le Nat _ c2 z) (ho1 : CodeAs oc QI) (ho2 : CodeAs oc2 QD) (hdp : dp ≤ D) (hu : un ≤ U) (B : Below A₀ base outer h₀) (F : Fr h₀ L s.heap m) (X : (kf.heap_1 w.params).In h₀) (N : News h₀ L s.heap big) (T : Top topProg loose mean mg mb h₀) (hk : cs.kind = .function)
    (ret : ∀ T q t1 t2 h' tk', Fr h₀ L h' m → News h₀ L h' ((T, tup2 q r t1 t2) :: big) → @LT.lt Nat _ z T → Q (.ref T) { s with heap := h', toks := tk' }) :
    wpAny (model prog w) (ktrTop dp un gd cn cs L a ccd cl outer) (call (.ref f) [.int x t, .int b u]) Q E s := by
  refine wpAny_call <| con_use0 (C z c c2 oz oc oc2 t u hzl hl1 hl2 ho1 ho2) hdp hu B F X N T hk (fun p hp => ?_) fun r mu' nw h' tk' F' N' hR hn => ?_
  · simp only [List.mem_cons, List.not_mem_nil, or_false] at hp
    k_extra "g"
    rcases hp with rfl | rfl | rfl | rfl | rfl <;> k_extra "h"
    · exact hz
    · exact hc1
    · exact ht1
    · exact hc2
    · exact ht2
  · k_extra "g"
    refine ex_4 hR fun T q t1 t2 k_ => and_4 k_ fun r1_ _ r2_ l => ?_
    clear k_ hR
    subst r1_
    subst r2_
    k_extra "h"
    exact ret T q t1 t2 h' tk' F' N' l
end
def DivU (prog : Program) (w : World) (loose : List Str) (mean : ExcName → Option Value) (mg mb : Str → Option Value) (D U f : Nat) (x b r : Int) : Prop := ∀ (z c1 c2 : Addr) (oz oc1 oc2 o59 o66 : Obj) (t u : Tok), @LT.lt Nat _ 66 z → @Ne Nat c1 59 → @Ne Nat c1 66 → @Ne Nat c2 59 → @Ne Nat c2 66 → ((o59 = tabObj #[] ∧ o66 = tabObj #[]) ∨ (o59 = tabI2 c1 ∧ o66 = tabD2 c2 ∧ CodeAs oc1 QI ∧ CodeAs oc2 QD)) →
    Con prog w loose mean mg mb D U f [Value.int x t, Value.int b u] [(z, oz), (c1, oc1), (c2, oc2)] [(59, o59), (66, o66)] (DivR z c1 c2 oc1 oc2 o59 o66 r)
section
variable {prog : Program} {w : World} {loose : List Str} {mean : ExcName → Option Value} {mg mb : Str → Option Value} {dp un D U f : Nat} {big : Led} {g : Obj → Led} {g2 : Obj → Obj → Led}
  {gd : Option (List Code)} {cn : Str} {cs : Scope} {a : Addr} {ccd : Value} {cl : List (Str × Addr)} {outer : List Env} {A₀ : Around} {base h₀ : Heap} {L z c1 c2 : Addr} {oz oc1 oc2 o59 o66 : Obj} {m : Str → Option Value} {s : Shared} {Q E : Value → Shared → Prop}
theorem divU_use {x b r : Int} {t u : Tok} (C : DivU prog w loose mean mg mb D U f x b r) (hst : (o59 = tabObj #[] ∧ o66 = tabObj #[]) ∨ (o59 = tabI2 c1 ∧ o66 = tabD2 c2 ∧ CodeAs oc1 QI ∧ CodeAs oc2 QD)) (hz : (z, oz) ∈ big) (hzl : @LT.lt Nat _ 66 z) (hm1 : (c1, oc1) ∈ big) (hm2 : (c2, oc2) ∈ big) (n1 : @Ne Nat c1 59) (n2 : @Ne Nat c1 66) (n3 : @Ne Nat c2 59) (n4 : @Ne Nat c2 66) (hU : UpdF 59 o59 big g) (hU2 : ∀ o, UpdF 66 o66 (g o) (g2 o)) (hdp : dp ≤ D) (hu : un ≤ U) (B : Below A₀ base outer h₀) (F : Fr h₀ L s.heap m) (X : (kf.heap_1 w.params).In h₀) (N : News h₀ L s.heap big) (T : Top topProg loose mean mg mb h₀) (hk : cs.kind = .function)
    (ret : ∀ T q t1 t2 c1' c2' nl h' tk', Fr h₀ L h' m → News h₀ L h' ((T, tup2 q r t1 t2) :: (g2 (tabI2 c1') (tabD2 c2') ++ nl)) → NwNe big ((T, tup2 q r t1 t2) :: nl) → DivR z c1 c2 oc1 oc2 o59 o66 r (.ref T) [(59, tabI2 c1'), (66, tabD2 c2')] ((T, tup2 q r t1 t2) :: nl) → Q (.ref T) { s with heap := h', toks := tk' }) :
    wpAny (model prog w) (ktrTop dp un gd cn cs L a ccd cl outer) (call (.ref f) [.int x t, .int b u]) Q E s := by
  refine wpAny_call <| con_use2n (C z c1 c2 oz oc1 oc2 o59 o66 t u hzl n1 n2 n3 n4 hst) hdp hu B F X N T hk hU hU2 (List.forall_mem_cons.mpr ⟨hz, List.forall_mem_cons.mpr ⟨hm1, List.forall_mem_cons.mpr ⟨hm2, List.forall_mem_nil _⟩⟩⟩) (by decide) (fun r o' o2' nw h' tk' F' N' hR hn => ?_) fun r mu' nw hR => ?_
  · k_extra "g"
    refine ex_9 hR fun T q t1 t2 c1' oc1' c2' oc2' nl k_ => and_4 k_ fun r1_ e r2_ hd => ?_
    clear k_ hR
    subst r1_
    subst r2_
    k_extra "h"
    k_extra "g"
    obtain ⟨rfl, rfl⟩ := two_eq e
    k_extra "h"
    exact ret T q t1 t2 c1' c2' nl h' tk' F' (fun q hq => N' q ((List.mem_cons.mp hq).elim (fun h => h ▸ .head _) fun h => .tail _ (List.mem_append.mpr (List.mem_append.mp h).symm))) hn ⟨T, q, t1, t2, c1', oc1', c2', oc2', nl, rfl, rfl, rfl, hd⟩
  · k_extra "g"
    refine ex_9 hR fun T q t1 t2 c1' oc1' c2' oc2' nl k_ => and_3 k_ fun _ e _ => ?_
    clear k_ hR
    k_extra "h"
    exact ⟨_, _, e⟩
end
theorem dpos_U {x b : Int} (hb : PrimeOk b) (hx : 0 ≤ x ∧ x < 2 ^ 20) : DivU prog w loose mean mg mb 345 230 78 x b (x.fmod b) := by
  intro z c1 c2 oz oc1 oc2 o59 o66 t u hz n1 n2 n3 n4 hst
  k_extra "g"
  obtain ⟨k, h8, h0, hk, hd⟩ := idm_facts hb hx
  obtain ⟨p1, p2, p3, p4⟩ := primeOk_bits hb
  k_extra "h"
  exact dpos_con prog w loose mean mg mb z c1 c2 oz oc1 oc2 o59 o66 x b k t u hz n1 n2 n3 n4 hst hx ⟨p1, p2⟩ ⟨by omega, p4⟩ h8 h0 hk hd
end
end
section
theorem L_T_ID.ln9_T_ID : True := trivial
open L_P L_T_ID
section
variable (prog : Program) (w : World) (loose : List Str) (mean : ExcName → Option Value) (mg mb : Str → Option Value)
theorem kw9_ID_1 : True := by
  (k_with "lT_ID" => fail_if_success (fail_if_success (have h9 := ln9_T_ID)))
  (k_with "call ref" => (k_extra "lT_ID"; (k_here; (with_reducible show wpAny _ _ (call (Value.ref _) [Value.int _ _, Value.int _ _]) _ _ _); k_dflt (refine' divU_use ?C ?hst ?hz ?hzl ?hm1 ?hm2 ?n1 ?n2 ?n3 ?n4 ?hU ?hU2 ?d1 ?d2 ?k1 ?k2 ?k3 ?k4 ?k5 ?k6 ?_; (case C => with_reducible assumption); (case hst => with_reducible assumption); (case d1 => exact Nat.le_of_ble_eq_true rfl); (case d2 => exact Nat.le_of_ble_eq_true rfl); (case n1 => with_reducible assumption); (case n2 => with_reducible assumption); (case n3 => with_reducible assumption); (case n4 => with_reducible assumption); (case k4 => k_asm); k_extra "K6"; (case hz => exact .head _); (case hzl => with_reducible assumption); (case hm1 => k_mem); (case hm2 => k_mem); (case hU => k_extra "mU"; k_updF); (case hU2 => intro o; k_extra "mU"; k_updF); k_whole); walk_at "TM")))
  trivial
theorem bitNot_eq (x : Int) : PySem.Builtin.bitNot x = -x - 1 := by
  unfold PySem.Builtin.bitNot
  omega
theorem DivR.next {z c1 c2 Tx T9 c19 c29 : Addr} {oc1 oc2 o59 o66 oT : Obj} {rr rr2 q : Int} {t1 t2 : Tok} {nl : Led} (h : DivR z c1 c2 oc1 oc2 o59 o66 rr (.ref Tx) [(59, tabI2 c19), (66, tabD2 c29)] ((Tx, oT) :: nl)) (xT : @LT.lt Nat _ Tx T9) (zT : @LT.lt Nat _ z T9) : DivR z c1 c2 oc1 oc2 o59 o66 rr2 (.ref T9) [(59, tabI2 c19), (66, tabD2 c29)] ((T9, tup2 q rr2 t1 t2) :: nl) := by
  refine ex_9 h fun T0 q0 t10 t20 c10 oc19 c20 oc29 nl0 k => and_7 k fun e0 e1 e2 zx ho1 ho2 hd => ?_
  clear h k
  cases e0; cases e1; cases e2
  exact exI_9 T9 q t1 t2 c19 oc19 c29 oc29 nl ⟨rfl, rfl, rfl, zT, ho1, ho2, hd.imp (fun h => ⟨h.1, h.2.1, h.2.2.1, h.2.2.2.1, Nat.lt_trans h.2.2.2.2 xT⟩) id⟩
namespace idmp_U
noncomputable section
def Claim9 (prog : Program) (w : World) (loose : List Str) (mean : ExcName → Option Value) (mg mb : Str → Option Value) (x b : Int) : Prop := ∀ (hb : PrimeOk b) (hx : 0 ≤ x ∧ x < 2 ^ 20), DivU prog w loose mean mg mb 342 210 85 x b (x.fmod b)
abbrev T9 : Type := (((Program × World) × ((List Str) × (ExcName → Option Value))) × (((Str → Option Value) × (Str → Option Value)) × (Int × Int)))
def U9 (t : T9) : Prop := Claim9 t.1.1.1 t.1.1.2 t.1.2.1 t.1.2.2 t.2.1.1 t.2.1.2 t.2.2.1 t.2.2.2
@[irreducible] def v9 : T9 := ch9 (by k_extra "NE") U9
theorem spec9 : U9 v9 → ∀ t, U9 t := by with_unfolding_all exact sp9 _ U9
theorem core9 : U9 v9 := by
  refine (let prog := v9.1.1.1; let w := v9.1.1.2; let loose := v9.1.2.1; let mean := v9.1.2.2; let mg := v9.2.1.1; let mb := v9.2.1.2; let x := v9.2.2.1; let b := v9.2.2.2; (?_ : Claim9 prog w loose mean mg mb x b))
  clear_value prog w loose mean mg mb x b
  intro hb hx
  have C := dpos_U prog w loose mean mg mb hb hx
  k_extra "g"
  obtain ⟨p1, p2, p3, p4⟩ := primeOk_bits hb
  k_extra "h"
  intro z c1 c2 oz oc1 oc2 o59 o66 t u hz n1 n2 n3 n4 hst
  k_extra "CON"
  k_extra "STEPSD"
  k_extra "LV"
  rename_i T9 q9 t19 t29 c19 c29 nl9 h9 tk9 F9 N9 hn8 hd8
  exact end_pick _ _ hd8 (List.forall_mem_cons.mpr ⟨.tail _ (.head _), List.forall_mem_cons.mpr ⟨mem_ix 2 rfl, List.forall_mem_cons.mpr ⟨mem_ix 3 rfl, List.forall_mem_nil _⟩⟩⟩) (List.forall_mem_cons.mpr ⟨mem_ix 4 rfl, List.forall_mem_cons.mpr ⟨mem_ix 5 rfl, List.forall_mem_nil _⟩⟩) (List.forall_mem_cons.mpr ⟨.head _, fun q hq => mem_dr 6 hq⟩) hn8
end
end idmp_U
theorem idmp_U {x b : Int} (hb : PrimeOk b) (hx : 0 ≤ x ∧ x < 2 ^ 20) : DivU prog w loose mean mg mb 342 210 85 x b (x.fmod b) := ((idmp_U.spec9 idmp_U.core9 (((prog, w), (loose, mean)), ((mg, mb), (x, b))) : idmp_U.Claim9 prog w loose mean mg mb x b)) hb hx
namespace idmn_U
noncomputable section
def Claim9 (prog : Program) (w : World) (loose : List Str) (mean : ExcName → Option Value) (mg mb : Str → Option Value) (x b : Int) : Prop := ∀ (hb : PrimeOk b) (hx : x < 0 ∧ - 2 ^ 20 ≤ x), DivU prog w loose mean mg mb 339 190 85 x b (x.fmod b)
abbrev T9 : Type := (((Program × World) × ((List Str) × (ExcName → Option Value))) × (((Str → Option Value) × (Str → Option Value)) × (Int × Int)))
def U9 (t : T9) : Prop := Claim9 t.1.1.1 t.1.1.2 t.1.2.1 t.1.2.2 t.2.1.1 t.2.1.2 t.2.2.1 t.2.2.2
@[irreducible] def v9 : T9 := ch9 (by k_extra "NE") U9
theorem spec9 : U9 v9 → ∀ t, U9 t := by with_unfolding_all exact sp9 _ U9
theorem core9 : U9 v9 := by
  refine (let prog := v9.1.1.1; let w := v9.1.1.2; let loose := v9.1.2.1; let mean := v9.1.2.2; let mg := v9.2.1.1; let mb := v9.2.1.2; let x := v9.2.2.1; let b := v9.2.2.2; (?_ : Claim9 prog w loose mean mg mb x b))
  clear_value prog w loose mean mg mb x b
  intro hb hx
  have C := idmp_U prog w loose mean mg mb hb (x := PySem.Builtin.bitNot x) (by rw [bitNot_eq]; omega)
  have hr : b + PySem.Builtin.bitNot ((PySem.Builtin.bitNot x).fmod b) = x.fmod b := by
    rw [bitNot_eq, bitNot_eq, ← inv_mod (x := x) (by have := primeOk_bits hb; omega)]
    omega
  generalize (PySem.Builtin.bitNot x).fmod b = rr at C hr
  k_extra "g"
  obtain ⟨p1, p2, p3, p4⟩ := primeOk_bits hb
  k_extra "h"
  intro z c1 c2 oz oc1 oc2 o59 o66 t u hz n1 n2 n3 n4 hst
  k_extra "CON"
  k_extra "STEPSD"
  k_extra "LV"
  rename_i Tx qx tx1 tx2 c19 c29 nl9 hx0 tkx hn8 hd8 hx1 hx2 hx3 T9 h9 F9 N9 lT
  rw [hr]
  have zT := alt_lt (o := oz) lT (.tail _ (.head _))
  have xT : @LT.lt Nat _ Tx T9 := alt_lt lT (.head _)
  refine end_pick [(59, tabI2 c19), (66, tabD2 c29)] ((T9, _) :: nl9) (hd8.next xT zT) (List.forall_mem_cons.mpr ⟨mem_ix 2 rfl, List.forall_mem_cons.mpr ⟨mem_ix 3 rfl, List.forall_mem_cons.mpr ⟨mem_ix 4 rfl, List.forall_mem_nil _⟩⟩⟩) (List.forall_mem_cons.mpr ⟨mem_ix 5 rfl, List.forall_mem_cons.mpr ⟨mem_ix 6 rfl, List.forall_mem_nil _⟩⟩) (List.forall_mem_cons.mpr ⟨.head _, fun q hq => mem_dr 7 hq⟩) ⟨⟨Nat.ne_of_lt zT, alt_ne (o := oc1) lT (mem_ix 2 rfl), alt_ne (o := oc2) lT (mem_ix 3 rfl), alt_ne (o := tabI2 c19) lT (mem_ix 4 rfl), alt_ne (o := tabD2 c29) lT (mem_ix 5 rfl), trivial⟩, hn8.2⟩
end
end idmn_U
theorem idmn_U {x b : Int} (hb : PrimeOk b) (hx : x < 0 ∧ - 2 ^ 20 ≤ x) : DivU prog w loose mean mg mb 339 190 85 x b (x.fmod b) := ((idmn_U.spec9 idmn_U.core9 (((prog, w), (loose, mean)), ((mg, mb), (x, b))) : idmn_U.Claim9 prog w loose mean mg mb x b)) hb hx
end
end
section
section
variable (prog : Program) (w : World) (loose : List Str) (mean : ExcName → Option Value) (mg mb : Str → Option Value)
noncomputable def fr1 (x : Int) : UInt64 := Float64.ofFrac (decide (1 - x < 0) != decide ((1 : Int) - 0 < 0)) (Int.natAbs (1 - x)) (Int.natAbs (1 - 0))
noncomputable def hueN (e : UInt64) : UInt64 := (Float64.divmod (Float64.div e 4618441417868443648) 4607182418800017408).2
noncomputable def hueOf (r g b : Int) : UInt64 := if r = 1 then hueN (Float64.sub (fr1 b) (fr1 g)) else if g = 1 then hueN (Float64.sub (Float64.add 4611686018427387904 (fr1 r)) (fr1 b)) else hueN (Float64.sub (Float64.add 4616189618054758400 (fr1 g)) (fr1 r))
def Lm (f : UInt64) (n : Int) : Prop := Float64.isNaN f = false ∧ Float64.isInf f = false ∧ Flt.toInt Float64.nearestOf f = n
def LampIs (v : Value) (n : Int) : Prop := (∃ t, v = .int n t) ∨ ∃ f t, v = .float f t ∧ Lm f n
noncomputable def fP : UInt64 := Float64.mul (Float64.ofInt 1) (Float64.sub 4607182418800017408 4607182418800017408)
noncomputable def fI (h : UInt64) : Int := Flt.toInt Float64.truncOf (Float64.mul h 4618441417868443648)
noncomputable def fF (h : UInt64) : UInt64 := Float64.sub (Float64.mul h 4618441417868443648) (Float64.ofInt (fI h))
noncomputable def fQ (h : UInt64) : UInt64 := Float64.mul (Float64.ofInt 1) (Float64.sub 4607182418800017408 (Float64.mul 4607182418800017408 (fF h)))
noncomputable def fT (h : UInt64) : UInt64 := Float64.mul (Float64.ofInt 1) (Float64.sub 4607182418800017408 (Float64.mul 4607182418800017408 (Float64.sub 4607182418800017408 (fF h))))
def HsvTo (h : UInt64) (r g b : Int) : Prop := (Float64.isNaN (Float64.mul h 4618441417868443648) = false ∧ Float64.isInf (Float64.mul h 4618441417868443648) = false ∧ (fI h).natAbs < 100) ∧
  (((fI h).fmod 6 = 0 ∧ r = 1 ∧ Lm (fT h) g ∧ Lm fP b) ∨ ((fI h).fmod 6 = 1 ∧ Lm (fQ h) r ∧ g = 1 ∧ Lm fP b) ∨ ((fI h).fmod 6 = 2 ∧ Lm fP r ∧ g = 1 ∧ Lm (fT h) b) ∨
   ((fI h).fmod 6 = 3 ∧ Lm fP r ∧ Lm (fQ h) g ∧ b = 1) ∨ ((fI h).fmod 6 = 4 ∧ Lm (fT h) r ∧ Lm fP g ∧ b = 1) ∨ ((fI h).fmod 6 = 5 ∧ r = 1 ∧ Lm fP g ∧ Lm (fQ h) b))
noncomputable def lampR : Nat → Int | 0 => 1 | 1 => 1 | 5 => 1 | _ => 0
noncomputable def lampG : Nat → Int | 1 => 1 | 2 => 1 | 3 => 1 | _ => 0
noncomputable def lampB : Nat → Int | 3 => 1 | 4 => 1 | 5 => 1 | _ => 0
theorem turn_all : ∀ c : Fin 6, ∀ k : Fin 6, HsvTo (Float64.add (hueOf (lampR c) (lampG c) (lampB c)) (Float64.div (Float64.ofInt (k : Nat)) 4618441417868443648)) (lampR ((c + k : Nat) % 6)) (lampG ((c + k : Nat) % 6)) (lampB ((c + k : Nat) % 6)) := by
  unfold HsvTo Lm
  decide +kernel
theorem six_all : ∀ c : Fin 6, Lm (Float64.mul 4618441417868443648 (hueOf (lampR c) (lampG c) (lampB c))) (c : Nat) := by
  unfold Lm
  decide +kernel
theorem lamp_bd (c : Nat) : (0 ≤ lampR c ∧ lampR c ≤ 1) ∧ (0 ≤ lampG c ∧ lampG c ≤ 1) ∧ (0 ≤ lampB c ∧ lampB c ≤ 1) := by
  refine ⟨?_, ?_, ?_⟩
  · unfold lampR; split <;> decide
  · unfold lampG; split <;> decide
  · unfold lampB; split <;> decide
section
variable {prog : Program} {w : World} {A : Around} {E : Value → Shared → Prop} {s : Shared} {h₀ : Heap} {L : Addr} {m : Str → Option Value} {news : List (Addr × Obj)} {Q : Value → Shared → Prop}
noncomputable def max3 (a b c : Int) : Int := if b > a then (if c > b then c else b) else (if c > a then c else a)
noncomputable def min3 (a b c : Int) : Int := if b < a then (if c < b then c else b) else (if c < a then c else a)
theorem lamp_mm (c : Nat) (h : c < 6) : max3 (lampR c) (lampG c) (lampB c) = 1 ∧ min3 (lampR c) (lampG c) (lampB c) = 0 := by
  have : c = 0 ∨ c = 1 ∨ c = 2 ∨ c = 3 ∨ c = 4 ∨ c = 5 := by omega
  rcases this with rfl | rfl | rfl | rfl | rfl | rfl <;> decide
theorem max3_N {a b c M : Int} {t u x : Tok} (hh : A.handled = none) (F : Fr h₀ L s.heap m) (N : News h₀ L s.heap news) (e : max3 a b c = M)
    (h : ∀ h' tk t', Fr h₀ L h' m → News h₀ L h' news → Q (.int M t') { s with heap := h', toks := tk }) : wpAny (model prog w) A (call (.builtin "max") [.int a t, .int b u, .int c x]) Q E s := by
  refine max_three_ints hh fun h' tk k => ?_
  have H := fun t' => h h' tk t' (Fr.keeps F k) (News.grown N k)
  subst e
  unfold max3 at H
  split <;> split <;> simp_all
theorem min3_N {a b c M : Int} {t u x : Tok} (hh : A.handled = none) (F : Fr h₀ L s.heap m) (N : News h₀ L s.heap news) (e : min3 a b c = M)
    (h : ∀ h' tk t', Fr h₀ L h' m → News h₀ L h' news → Q (.int M t') { s with heap := h', toks := tk }) : wpAny (model prog w) A (call (.builtin "min") [.int a t, .int b u, .int c x]) Q E s := by
  refine min_three_ints hh fun h' tk k => ?_
  have H := fun t' => h h' tk t' (Fr.keeps F k) (News.grown N k)
  subst e
  unfold min3 at H
  split <;> split <;> simp_all
theorem lamp_round {v : Value} {n : Int} (hA : A.handled = none) (hv : LampIs v n) (h : ∀ t tk, Q (.int n t) { s with toks := tk }) : wpAny (model prog w) A (call (.builtin "round") [v]) Q E s := by
  k_extra "g"
  rcases hv with ⟨t, rfl⟩ | ⟨f, t, rfl, h1, h2, h3⟩ <;> k_extra "h"
  · exact call_round_int (h t s.toks)
  · refine Flt.call_round_float hA (fun q => ?_) (fun q => ?_) fun _ => ?_
    · rw [h1] at q; cases q
    · rw [h2] at q; cases q
    · rw [h3]; exact h _ _
end
end
end
section
theorem L_T_FB.ln9_T_FB : True := trivial
open L_P L_T_FB
section
variable (prog : Program) (w : World) (loose : List Str) (mean : ExcName → Option Value) (mg mb : Str → Option Value)
theorem kw9_FB_2 : True := by
  (k_with "lT_FB" => fail_if_success (fail_if_success (have h9 := ln9_T_FB)))
  (k_with "call builtin:max" => (k_extra "lT_FB"; (k_here; (with_reducible show wpAny _ _ (call (Value.builtin _) [Value.int _ _, Value.int _ _, Value.int _ _]) _ _ _); refine' max3_N (M := 1) ?k1 ?k2 ?k3 ?k4 ?_; (case k1 => rfl); (case k2 => k_asm); (case k3 => k_asm); (case k4 => assumption); intros; (try k_sweep))))
  (k_with "call builtin:min" => (k_extra "lT_FB"; (k_here; (with_reducible show wpAny _ _ (call (Value.builtin _) [Value.int _ _, Value.int _ _, Value.int _ _]) _ _ _); refine' min3_N (M := 0) ?k1 ?k2 ?k3 ?k4 ?_; (case k1 => rfl); (case k2 => k_asm); (case k3 => k_asm); (case k4 => assumption); intros; (try k_sweep))))
  trivial
noncomputable abbrev tupOf (vs : List Value) : Obj := { cls := .type "tuple", data := .seq vs.toArray }
end
namespace rgb_con
noncomputable section
def Claim9 (prog : Program) (w : World) (loose : List Str) (mean : ExcName → Option Value) (mg mb : Str → Option Value) (z : Addr) (oz : Obj) (r g b : Int) (t u v : Tok) : Prop := ∀ (hmx : max3 r g b = 1) (hmn : min3 r g b = 0) (hr : 0 ≤ r ∧ r ≤ 1) (hg : 0 ≤ g ∧ g ≤ 1) (hb : 0 ≤ b ∧ b ≤ 1), Con prog w loose mean mg mb 348 250 92 [.int r t, .int g u, .int b v] [(z, oz)] []
      (fun v mu' nw => ∃ T hue sat t1 t2 t3, v = .ref T ∧ mu' = [] ∧ nw = [(T, tupOf [.float hue t1, .float sat t2, .int 1 t3])] ∧ @LT.lt Nat _ z T ∧ hue = hueOf r g b ∧ sat = 4607182418800017408)
abbrev T9 : Type := ((((Program × World) × ((List Str) × (ExcName → Option Value))) × (((Str → Option Value) × (Str → Option Value)) × Addr)) × (((Obj × Int) × (Int × Int)) × ((Tok × Tok) × Tok)))
def U9 (t : T9) : Prop := Claim9 t.1.1.1.1 t.1.1.1.2 t.1.1.2.1 t.1.1.2.2 t.1.2.1.1 t.1.2.1.2 t.1.2.2 t.2.1.1.1 t.2.1.1.2 t.2.1.2.1 t.2.1.2.2 t.2.2.1.1 t.2.2.1.2 t.2.2.2
@[irreducible] def v9 : T9 := ch9 (by k_extra "NE") U9
theorem spec9 : U9 v9 → ∀ t, U9 t := by with_unfolding_all exact sp9 _ U9
def prog := v9.1.1.1.1
def w := v9.1.1.1.2
def loose := v9.1.1.2.1
def mean := v9.1.1.2.2
def mg := v9.1.2.1.1
def mb := v9.1.2.1.2
def z := v9.1.2.2
def oz := v9.2.1.1.1
def r := v9.2.1.1.2
def g := v9.2.1.2.1
def b := v9.2.1.2.2
def t := v9.2.2.1.1
def u := v9.2.2.1.2
def v := v9.2.2.2
theorem core9 : Claim9 prog w loose mean mg mb z oz r g b t u v := by
  intro hmx hmn hr hg hb
  k_extra "CON"
  k_extra "STEPSD"
  all_goals k_extra "LV"
  all_goals refine end_cut3 0 1 2 ?_ ?_ ?_
  all_goals first
  | k_extra "SUBS"
  | k_extra "NES3"
  | (dsimp only [List.take, List.drop]
     refine exI_6 _ _ _ _ _ _ ⟨rfl, rfl, rfl, by omega, ?_, by decide +kernel⟩
     unfold hueOf
     first | (rw [if_pos (by assumption)]; rfl) | (rw [if_neg (by assumption), if_pos (by assumption)]; rfl) | (rw [if_neg (by assumption), if_neg (by assumption)]; rfl))
end
end rgb_con
section
variable (prog : Program) (w : World) (loose : List Str) (mean : ExcName → Option Value) (mg mb : Str → Option Value)
theorem rgb_con (z : Addr) (oz : Obj) (r g b : Int) (t u v : Tok) (hmx : max3 r g b = 1) (hmn : min3 r g b = 0) (hr : 0 ≤ r ∧ r ≤ 1) (hg : 0 ≤ g ∧ g ≤ 1) (hb : 0 ≤ b ∧ b ≤ 1) :
    Con prog w loose mean mg mb 348 250 92 [.int r t, .int g u, .int b v] [(z, oz)] []
      (fun v mu' nw => ∃ T hue sat t1 t2 t3, v = .ref T ∧ mu' = [] ∧ nw = [(T, tupOf [.float hue t1, .float sat t2, .int 1 t3])] ∧ @LT.lt Nat _ z T ∧ hue = hueOf r g b ∧ sat = 4607182418800017408) := ((rgb_con.spec9 rgb_con.core9 ((((prog, w), (loose, mean)), ((mg, mb), z)), (((oz, r), (g, b)), ((t, u), v))) : rgb_con.Claim9 prog w loose mean mg mb z oz r g b t u v)) hmx hmn hr hg hb
end
namespace hsv_con
noncomputable section
def Claim9 (prog : Program) (w : World) (loose : List Str) (mean : ExcName → Option Value) (mg mb : Str → Option Value) (z : Addr) (oz : Obj) (h : UInt64) (r g b : Int) (t u v : Tok) : Prop := ∀ (hh : HsvTo h r g b), Con prog w loose mean mg mb 348 250 99 [.float h t, .float 4607182418800017408 u, .int 1 v] [(z, oz)] []
      (fun v mu' nw => ∃ T x y x', v = .ref T ∧ mu' = [] ∧ nw = [(T, tupOf [x, y, x'])] ∧ @LT.lt Nat _ z T ∧ LampIs x r ∧ LampIs y g ∧ LampIs x' b)
abbrev T9 : Type := ((((Program × World) × ((List Str) × (ExcName → Option Value))) × (((Str → Option Value) × (Str → Option Value)) × (Addr × Obj))) × (((UInt64 × Int) × (Int × Int)) × ((Tok × Tok) × Tok)))
def U9 (t : T9) : Prop := Claim9 t.1.1.1.1 t.1.1.1.2 t.1.1.2.1 t.1.1.2.2 t.1.2.1.1 t.1.2.1.2 t.1.2.2.1 t.1.2.2.2 t.2.1.1.1 t.2.1.1.2 t.2.1.2.1 t.2.1.2.2 t.2.2.1.1 t.2.2.1.2 t.2.2.2
@[irreducible] def v9 : T9 := ch9 (by k_extra "NE") U9
theorem spec9 : U9 v9 → ∀ t, U9 t := by with_unfolding_all exact sp9 _ U9
def prog := v9.1.1.1.1
def w := v9.1.1.1.2
def loose := v9.1.1.2.1
def mean := v9.1.1.2.2
def mg := v9.1.2.1.1
def mb := v9.1.2.1.2
def z := v9.1.2.2.1
def oz := v9.1.2.2.2
def h := v9.2.1.1.1
def r := v9.2.1.1.2
def g := v9.2.1.2.1
def b := v9.2.1.2.2
def t := v9.2.2.1.1
def u := v9.2.2.1.2
def v := v9.2.2.2
theorem core9 : Claim9 prog w loose mean mg mb z oz h r g b t u v := by
  intro hh
  k_extra "g"
  obtain ⟨⟨hnan, hinf, hbig⟩, hh⟩ := hh
  k_extra "h"
  unfold fI at hh hbig
  have hb6 : 0 ≤ (Flt.toInt Float64.truncOf (Float64.mul h 4618441417868443648)).fmod 6 ∧ (Flt.toInt Float64.truncOf (Float64.mul h 4618441417868443648)).fmod 6 < 6 := ⟨Int.fmod_nonneg_of_pos _ (by decide), Int.fmod_lt_of_pos _ (by decide)⟩
  k_extra "CON"
  k_extra "STEPSD"
  all_goals first
  | (exfalso; omega)
  | (exfalso; exact absurd ‹(Float64.cmp 4607182418800017408 0 == some Ordering.eq) = true› (by decide +kernel))
  | (exfalso; exact Bool.noConfusion (hnan.symm.trans (by assumption)))
  | (exfalso; exact Bool.noConfusion (hinf.symm.trans (by assumption)))
  | skip
  all_goals k_extra "LV"
  all_goals refine end_cut3 0 1 2 ?_ ?_ ?_
  all_goals first
  | k_extra "SUBS"
  | k_extra "NES3"
  | (dsimp only [List.take, List.drop]
     refine exI_4 _ _ _ _ ⟨rfl, rfl, rfl, by omega, ?_⟩
     k_extra "g"
     rcases hh with ⟨q, h1, h2, h3⟩ | ⟨q, h1, h2, h3⟩ | ⟨q, h1, h2, h3⟩ | ⟨q, h1, h2, h3⟩ | ⟨q, h1, h2, h3⟩ | ⟨q, h1, h2, h3⟩ <;> k_extra "h"
     all_goals first
     | (exfalso; omega)
     | exact ⟨.inl ⟨_, by rw [h1]⟩, .inr ⟨_, _, rfl, h2⟩, .inr ⟨_, _, rfl, h3⟩⟩
     | exact ⟨.inr ⟨_, _, rfl, h1⟩, .inl ⟨_, by rw [h2]⟩, .inr ⟨_, _, rfl, h3⟩⟩
     | exact ⟨.inr ⟨_, _, rfl, h1⟩, .inr ⟨_, _, rfl, h2⟩, .inl ⟨_, by rw [h3]⟩⟩)
end
end hsv_con
section
variable (prog : Program) (w : World) (loose : List Str) (mean : ExcName → Option Value) (mg mb : Str → Option Value)
theorem hsv_con (z : Addr) (oz : Obj) (h : UInt64) (r g b : Int) (t u v : Tok) (hh : HsvTo h r g b) :
    Con prog w loose mean mg mb 348 250 99 [.float h t, .float 4607182418800017408 u, .int 1 v] [(z, oz)] []
      (fun v mu' nw => ∃ T x y x', v = .ref T ∧ mu' = [] ∧ nw = [(T, tupOf [x, y, x'])] ∧ @LT.lt Nat _ z T ∧ LampIs x r ∧ LampIs y g ∧ LampIs x' b) := ((hsv_con.spec9 hsv_con.core9 ((((prog, w), (loose, mean)), ((mg, mb), (z, oz))), (((h, r), (g, b)), ((t, u), v))) : hsv_con.Claim9 prog w loose mean mg mb z oz h r g b t u v)) hh
end
end
section
section
variable (prog : Program) (w : World) (loose : List Str) (mean : ExcName → Option Value) (mg mb : Str → Option Value)
section
variable {prog : Program} {w : World} {loose : List Str} {mean : ExcName → Option Value} {mg mb : Str → Option Value} {dp un : Nat} {big : Led} {g : Obj → Led}
  {gd : Option (List Code)} {cn : Str} {cs : Scope} {a : Addr} {ccd : Value} {cl : List (Str × Addr)} {outer : List Env} {A₀ : Around} {base h₀ : Heap} {L z : Addr} {oz : Obj} {m : Str → Option Value} {s : Shared} {Q E : Value → Shared → Prop}
theorem rgb_u {x y x' : Int} {t u v : Tok} (hmx : max3 x y x' = 1) (hmn : min3 x y x' = 0) (hr : 0 ≤ x ∧ x ≤ 1) (hg : 0 ≤ y ∧ y ≤ 1) (hb : 0 ≤ x' ∧ x' ≤ 1) (hz : (z, oz) ∈ big) (hdp : dp ≤ 348) (hu : un ≤ 250) (B : Below A₀ base outer h₀) (F : Fr h₀ L s.heap m) (X : (kf.heap_1 w.params).In h₀) (N : News h₀ L s.heap big) (T : Top topProg loose mean mg mb h₀) (hk : cs.kind = .function)
    (ret : ∀ D t1 t2 t3 h' tk', Fr h₀ L h' m → News h₀ L h' ((D, tupOf [.float (hueOf x y x') t1, .float 4607182418800017408 t2, .int 1 t3]) :: big) → @LT.lt Nat _ z D → Q (.ref D) { s with heap := h', toks := tk' }) :
    wpAny (model prog w) (ktrTop dp un gd cn cs L a ccd cl outer) (call (.ref 92) [.int x t, .int y u, .int x' v]) Q E s := by
  refine wpAny_call <| con_use0 (rgb_con prog w loose mean mg mb z oz x y x' t u v hmx hmn hr hg hb) hdp hu B F X N T hk (fun p hp => by rw [List.mem_singleton.mp hp]; exact hz) fun r mu' nw h' tk' F' N' hR hn => ?_
  k_extra "g"
  refine ex_6 hR fun D hue sat t1 t2 t3 k_ => and_6 k_ fun r1_ _ r2_ hl r3_ r4_ => ?_
  clear k_ hR
  subst r1_
  subst r2_
  subst r3_
  subst r4_
  k_extra "h"
  exact ret D t1 t2 t3 h' tk' F' N' hl
theorem hsv_u {h : UInt64} {x y x' : Int} {t u v : Tok} (hh : HsvTo h x y x') (hz : (z, oz) ∈ big) (hdp : dp ≤ 348) (hu : un ≤ 250) (B : Below A₀ base outer h₀) (F : Fr h₀ L s.heap m) (X : (kf.heap_1 w.params).In h₀) (N : News h₀ L s.heap big) (T : Top topProg loose mean mg mb h₀) (hk : cs.kind = .function)
    (ret : ∀ D v1 v2 v3 h' tk', LampIs v1 x → LampIs v2 y → LampIs v3 x' → Fr h₀ L h' m → News h₀ L h' ((D, tupOf [v1, v2, v3]) :: big) → @LT.lt Nat _ z D → Q (.ref D) { s with heap := h', toks := tk' }) :
    wpAny (model prog w) (ktrTop dp un gd cn cs L a ccd cl outer) (call (.ref 99) [.float h t, .float 4607182418800017408 u, .int 1 v]) Q E s := by
  refine wpAny_call <| con_use0 (hsv_con prog w loose mean mg mb z oz h x y x' t u v hh) hdp hu B F X N T hk (fun p hp => by rw [List.mem_singleton.mp hp]; exact hz) fun r mu' nw h' tk' F' N' hR hn => ?_
  k_extra "g"
  refine ex_4 hR fun D v1 v2 v3 k_ => and_7 k_ fun r1_ _ r2_ hl h1 h2 h3 => ?_
  clear k_ hR
  subst r1_
  subst r2_
  k_extra "h"
  exact ret D v1 v2 v3 h' tk' h1 h2 h3 F' N' hl
end
end
end
section
theorem L_T_LC.ln9_T_LC : True := trivial
open L_T_LC
section
variable (prog : Program) (w : World) (loose : List Str) (mean : ExcName → Option Value) (mg mb : Str → Option Value)
theorem kw9_LC_1 : True := by
  (k_with "lT_LC" => fail_if_success (fail_if_success (have h9 := ln9_T_LC)))
  (k_with "omega" => (k_extra "lT_LC"; first | (with_reducible assumption) | lia | omega +splitDisjunctions))
  trivial
section
variable {prog : Program} {w : World} {A : Around} {E : Value → Shared → Prop} {s : Shared} {h₀ : Heap} {L : Addr} {m : Str → Option Value} {env : Env}
def LBack (h₀ : Heap) (L : Addr) (m : Str → Option Value) (s : Shared) (Dr : Drawn → Prop) (I : Addr) (oI : Obj) (C : Addr) (oC : Obj) (D : Addr) (oD : Obj) (S : Led → Prop) (J : Value → Led → Prop) (y : Value) (s3 : Shared) : Prop :=
  ∃ h tk dr led, s3 = { s with heap := h, toks := tk, drawn := dr } ∧ Dr dr ∧ Fr h₀ L h m ∧ News h₀ L h ((I, oI) :: (C, oC) :: (D, oD) :: led) ∧ LCg.Off3 I C D led ∧ S led ∧ J y led
theorem allNe_one {D : Addr} : ∀ {l : Led}, (∀ p ∈ l, p.1 ≠ D) → LCg.Off1 D l
  | [], _ => trivial
  | p :: r, h => ⟨h p (.head _), allNe_one fun q hq => h q (.tail _ hq)⟩
namespace lc_block
noncomputable section
def Claim9 (prog : Program) (w : World) (A : Around) (E : Value → Shared → Prop) (s : Shared) (h₀ : Heap) (L : Addr) (m : Str → Option Value) (env : Env) (elt iter : Expr) (x : Str) (px : Pos) (cl : List (Str × Addr)) (pos : Pos) (I : Addr) (fp : List Addr) (n : Nat) (P : Nat → Value → Prop) (St : Nat → Heap → Prop) (S : Led → Prop) (Dr : Drawn → Prop) (J : Nat → List Value → Led → Prop) (led0 : Led) : Prop := ∀ (scope : Scope) (RR : Value → Addr → Result → Shared → Prop) (W : Walks prog w A I fp [I] n P St) (hsz : n ≤ 1000) (hIo : ∀ i h, St i h → ∃ o, h.get? I = some o) (hSt : ∀ i h h' o nw, St i h → h.get? I = some o → h'.get? I = some o → (∀ b o, h₀.get? b = some o → h'.get? b = some o) → News h₀ L h' nw → S nw → St i h') (hcell : ∀ y ∈ scope.names, y.2 ≠ .cell) (hkind : scope.kind = .function) (hx : scope.names.lookup x = some .local) (hst : St 0 s.heap) (hfp : ∀ b ∈ fp, b < s.heap.objs.size) (F : Fr h₀ L s.heap m) (N : News h₀ L s.heap led0) (hIL : L ≠ I) (hI₀ : h₀.get? I = none) (off : ∀ p ∈ led0, p.1 ≠ I) (hS : S led0) (hD : Dr s.drawn) (hJ : J 0 [] led0) (turn : ∀ i v ys led oI C oC D m₂ h tk dr (E' : Value → Shared → Prop), P i v → i < n → Dr dr → ys.length = i → LCg.NsObj oC m₂ → m₂ x = some v → Fr h₀ L h m → News h₀ L h ((I, oI) :: (C, oC) :: (D, LCg.lst ys) :: led) → LCg.Off3 I C D led → ((@Ne Nat I C) ∧ (@Ne Nat I D) ∧ (@Ne Nat C D)) → (@LT.lt Nat _ I D ∧ @LT.lt Nat _ D C) → S led → J i ys led →
      wpAny (model prog w) A (eval elt (compEnvC scope cl C env)) (LBack h₀ L m s Dr I oI C oC D (LCg.lst ys) S (fun y led' => J (i + 1) (ys ++ [y]) led')) E' { s with heap := h, toks := tk, drawn := dr }) (hRR : ∀ D C h tk dr m' ys led, (∀ p ∈ led0, p.1 < D) → Dr dr → ys.length = n → Fr h₀ L h m → News h₀ L h ((D, LCg.lst ys) :: led) → (∀ p ∈ led, p.1 ≠ D) → h.Ns C m' → h₀.get? C = none → h₀.get? D = none → C ≠ L → D ≠ L → C ≠ D → (∀ p ∈ led, p.1 ≠ C) → S led → J n ys led → RR (.ref D) C (.ok .next) { s with heap := h, toks := tk, drawn := dr }), wpAny (model prog w) A (newList []) (fun acc s₃ => wpAny (model prog w) A (newFunctionEnv scope env.globals cl [] env.qual none .none (some env)) (fun cenv s₄ =>
      codeAny (model prog w) A (.compStart (.ListComp elt [⟨.Name x px, iter, [], 0⟩] scope pos) 0 (.ref I) acc { cenv with scope := relabel scope env }) (RR acc cenv.locals) s₄) E s₃) E s
abbrev T9 : Type := (((((Program × World) × Around) × (((Value → Shared → Prop) × Shared) × Heap)) × (((Addr × (Str → Option Value)) × Env) × ((Expr × Expr) × Str))) × ((((Pos × (List (Str × Addr))) × Pos) × ((Addr × (List Addr)) × Nat)) × ((((Nat → Value → Prop) × (Nat → Heap → Prop)) × (Led → Prop)) × (((Drawn → Prop) × (Nat → List Value → Led → Prop)) × Led))))
def U9 (t : T9) : Prop := Claim9 t.1.1.1.1.1 t.1.1.1.1.2 t.1.1.1.2 t.1.1.2.1.1 t.1.1.2.1.2 t.1.1.2.2 t.1.2.1.1.1 t.1.2.1.1.2 t.1.2.1.2 t.1.2.2.1.1 t.1.2.2.1.2 t.1.2.2.2 t.2.1.1.1.1 t.2.1.1.1.2 t.2.1.1.2 t.2.1.2.1.1 t.2.1.2.1.2 t.2.1.2.2 t.2.2.1.1.1 t.2.2.1.1.2 t.2.2.1.2 t.2.2.2.1.1 t.2.2.2.1.2 t.2.2.2.2
@[irreducible] def v9 : T9 := ch9 (by k_extra "NE") U9
theorem spec9 : U9 v9 → ∀ t, U9 t := by with_unfolding_all exact sp9 _ U9
theorem core9 : U9 v9 := by
  refine (let prog := v9.1.1.1.1.1; let w := v9.1.1.1.1.2; let A := v9.1.1.1.2; let E := v9.1.1.2.1.1; let s := v9.1.1.2.1.2; let h₀ := v9.1.1.2.2; let L := v9.1.2.1.1.1; let m := v9.1.2.1.1.2; let env := v9.1.2.1.2; let elt := v9.1.2.2.1.1; let iter := v9.1.2.2.1.2; let x := v9.1.2.2.2; let px := v9.2.1.1.1.1; let cl := v9.2.1.1.1.2; let pos := v9.2.1.1.2; let I := v9.2.1.2.1.1; let fp := v9.2.1.2.1.2; let n := v9.2.1.2.2; let P := v9.2.2.1.1.1; let St := v9.2.2.1.1.2; let S := v9.2.2.1.2; let Dr := v9.2.2.2.1.1; let J := v9.2.2.2.1.2; let led0 := v9.2.2.2.2; (?_ : Claim9 prog w A E s h₀ L m env elt iter x px cl pos I fp n P St S Dr J led0))
  clear_value prog w A E s h₀ L m env elt iter x px cl pos I fp n P St S Dr J led0
  intro scope RR W hsz hIo hSt hcell hkind hx hst hfp F N hIL hI₀ off hS hD hJ turn hRR
  refine wpAny_newObj_type (wpAny_newFunctionEnv hcell (by intro y hy; simp at hy) (fun hA nsA sbA => ?_) hkind)
  dsimp only at nsA sbA ⊢
  have hlt : ∀ b o, s.heap.get? b = some o → b < s.heap.objs.size := fun b o e => Heap.lt_size e
  generalize eB : s.heap.push { cls := .type "list", dict := none, data := .seq ([] : List Value).toArray } = HB at nsA sbA ⊢
  have sB : HB.objs.size = s.heap.objs.size + 1 := by rw [← eB, Heap.size_push]
  have fresh : ∀ a, s.heap.objs.size ≤ a → h₀.get? a = none := fun a ha => by
    cases e : h₀.get? a with
    | none => rfl
    | some o => exact absurd (Heap.lt_size (F.keep a o e)) (Nat.not_lt.mpr ha)
  have nD : h₀.get? s.heap.objs.size = none := fresh _ (Nat.le_refl _)
  have nC : h₀.get? HB.objs.size = none := fresh _ (by rw [sB]; exact Nat.le_succ _)
  have apart : ∀ b, b < s.heap.objs.size → b ≠ HB.objs.size ∧ b ≠ s.heap.objs.size := fun b hb => ⟨by rw [sB]; exact Nat.ne_of_lt (Nat.lt_succ_of_lt hb), Nat.ne_of_lt hb⟩
  have dc : s.heap.objs.size ≠ HB.objs.size := by rw [sB]; exact Nat.ne_of_lt (Nat.lt_succ_self _)
  have ups : ∀ b o, s.heap.get? b = some o → hA.get? b = some o := fun b o e => sbA.extBut b o (apart b (hlt b o e)).1 (Heap.get?_push_of_some _ (eB ▸ Heap.get?_push_of_some _ e))
  have hacc : hA.get? s.heap.objs.size = some (LCg.lst []) := sbA.extBut _ _ dc (Heap.get?_push_of_some _ (eB ▸ Heap.get?_push_size _ rfl))
  have hIf : I ∈ fp := W.sub I (List.mem_singleton.mpr rfl)
  have offD : s.heap.objs.size ∉ fp := fun hm => Nat.lt_irrefl _ (hfp _ hm)
  have offC : HB.objs.size ∉ fp := fun hm => by have := hfp _ hm; rw [sB] at this; exact Nat.lt_irrefl _ (Nat.lt_of_succ_lt this)
  have iC := (apart I (hfp I hIf)).1
  have iD := (apart I (hfp I hIf)).2
  have lC := (apart L F.ns.lt).1
  have lD := (apart L F.ns.lt).2
  have hst1 : St 0 hA := W.frame _ _ _ hst fun b _ o e => ups b o e
  have loop : ∀ s₃ : Shared, s₃ = { s with heap := hA, toks := s.toks + ([] : List (Str × Value)).length } →
      codeAny (model prog w) A (.compLoop (.ListComp elt [⟨.Name x px, iter, [], 0⟩] scope pos) 0 (.ref I) (.ref s.heap.objs.size) (compEnvC scope cl HB.objs.size env)) (RR (.ref s.heap.objs.size) HB.objs.size) s₃ := by
    rintro s₃ rfl
    refine codeAny_compLoop_tests
      (fun k s' => ∃ h tk dr i ys m' led, s' = { s with heap := h, toks := tk, drawn := dr } ∧ Dr dr ∧ i ≤ n ∧ k = n + 1 - i ∧ ys.length = i ∧ St i h ∧ Fr h₀ L h m ∧ h.Ns HB.objs.size m' ∧ News h₀ L h ((s.heap.objs.size, LCg.lst ys) :: led) ∧
        LCg.Off3 I HB.objs.size s.heap.objs.size led ∧ S led ∧ J i ys led) ?_ (n + 1)
      ⟨hA, _, s.drawn, 0, [], _, led0, rfl, hD, Nat.zero_le _, rfl, rfl, hst1, F.keeps ups, nsA, fun p hp => ?_, LCg.Off3.of fun p hp => ⟨off p hp, apart _ (hlt _ _ (N p hp).1)⟩, hS, hJ⟩
    · intro k s' hI_
      refine ex_7 hI_ ?_; clear hI_; intro h tk dr i ys m' led hI_
      refine and_12 hI_ ?_; clear hI_; intro hs1_ hd hi hs2_ hyl hst' F' ns' N' off' hS' hJ'
      subst hs1_
      subst hs2_
      have off3 := off'.mem
      by_cases hlt' : i < n
      · refine W.item i _ _ _ hlt' hst' fun v h2 tk2 hP hst2 k2 => ?_
        refine wpAny_assign_Name (wpAny_storeName_local (lookup_relabel_local hx) (ns'.at' fun o e => k2 _ o (by simpa using Ne.symm iC) e) (fun h3 ns3 sb3 => ?_) (by simp [compEnvC, relabel, hkind]))
        refine wpAny_tests_nil ?_
        simp only [if_true]
        have hst3 : St (i + 1) h3 := W.frame _ _ _ hst2 fun b hb o e => sb3.extBut b o (fun q => offC (by have q' : b = HB.objs.size := q; rw [← q']; exact hb)) e
        k_extra "g"
        obtain ⟨oI, eI⟩ := hIo _ _ hst3
        obtain ⟨oC, eC, hoC⟩ := LCg.ns_obj ns3
        k_extra "h"
        have F3 : Fr h₀ L h3 m := (LCg.fr_but F' k2 hIL hI₀).change sb3 (Ne.symm lC) nC
        have N2 : News h₀ L h2 ((s.heap.objs.size, LCg.lst ys) :: led) := LCg.news_but N' k2 fun p hp => by
          k_extra "g"
          rcases List.mem_cons.mp hp with rfl | hp <;> k_extra "h"
          · exact Ne.symm iD
          · exact (off3 p hp).1
        have N3 : News h₀ L h3 ((I, oI) :: (HB.objs.size, oC) :: (s.heap.objs.size, LCg.lst ys) :: led) := fun p hp => by
          k_extra "g"
          rcases List.mem_cons.mp hp with rfl | hp <;> k_extra "h"
          · exact ⟨eI, Ne.symm hIL, hI₀⟩
          · rcases List.mem_cons.mp hp with rfl | hp
            · exact ⟨eC, Ne.symm lC, nC⟩
            · have z := N2 p hp
              refine ⟨sb3.extBut _ _ ?_ z.1, z.2⟩
              k_extra "g"
              rcases List.mem_cons.mp hp with rfl | hp <;> k_extra "h"
              · exact dc
              · exact (off3 p hp).2.1
        refine wpAny_mono (turn i v ys led oI _ oC _ _ h3 _ dr _ hP hlt' hd hyl hoC (by simp) F3 N3 off' ⟨iC, iD, Ne.symm dc⟩ ⟨hfp I hIf, by rw [sB]; exact Nat.lt_succ_self _⟩ hS' hJ') (fun y s4 q => ?_) fun _ _ e => e
        k_extra "g"
        refine ex_4 q ?_; clear q; intro h4 tk4 dr4 led4 q
        refine and_7 q ?_; clear q; intro hs1_ hd4 F4 N4 off4 hS4 hJ4
        subst hs1_
        k_extra "h"
        have zI := (N4 _ (.head _)).1
        have zC := (N4 _ (.tail _ (.head _))).1
        have zD := (N4 _ (mem_ix 2 rfl)).1
        have N5 : News h₀ L h4 led4 := fun p hp => N4 p (mem_dr 3 hp)
        have hst4 : St (i + 1) h4 := hSt _ _ _ _ _ hst3 eI zI F4.keep N5 hS4
        have o4 := off4.mem
        refine append_at (hsz := by rw [List.size_toArray, hyl, PySem.sizeLine_eq]; omega) zD fun h5 sb5 e5 => ?_
        refine ⟨n + 1 - (i + 1), by omega, exI_7 h5 tk4 dr4 (i + 1) (ys ++ [y]) _ led4 ⟨rfl, hd4, hlt', rfl, by rw [List.length_append, List.length_singleton, hyl], W.frame _ _ _ hst4 fun b hb o e => sb5.extBut b o (fun q => offD (by have q' : b = s.heap.objs.size := q; rw [← q']; exact hb)) e, F4.change sb5 (Ne.symm lD) nD, (hoC.ns zC).sameBut sb5 (Ne.symm dc), fun p hp => ?_, off4, hS4, hJ4⟩⟩
        k_extra "g"
        rcases List.mem_cons.mp hp with rfl | hp <;> k_extra "h"
        · exact ⟨e5.trans (congrArg some (LCg.lst_snoc ys y)), Ne.symm lD, nD⟩
        · exact ⟨sb5.extBut _ _ (o4 p hp).2.2 (N5 p hp).1, (N5 p hp).2⟩
      · obtain rfl : i = n := by omega
        refine W.done _ _ _ hst' fun h2 tk2 k2 => ?_
        refine hRR _ _ h2 tk2 dr _ ys led (fun p hp => hlt _ _ (N p hp).1) hd hyl (LCg.fr_but F' k2 hIL hI₀) (LCg.news_but N' k2 fun p hp => ?_) (fun p hp => (off3 p hp).2.2) (ns'.at' fun o e => k2 _ o (by simpa using Ne.symm iC) e) nC nD (Ne.symm lC) (Ne.symm lD) (Ne.symm dc) (fun p hp => (off3 p hp).2.1) hS' hJ'
        k_extra "g"
        rcases List.mem_cons.mp hp with rfl | hp <;> k_extra "h"
        · exact Ne.symm iD
        · exact (off3 p hp).1
    · rcases List.mem_cons.mp hp with rfl | hp
      · exact ⟨hacc, Ne.symm lD, nD⟩
      · exact ⟨ups _ _ (N p hp).1, (N p hp).2⟩
  exact codeAny_compStart_list (loop _ rfl) (W.self 0 _ _ _ hst1 (loop _ rfl))
end
end lc_block
theorem lc_block {elt iter : Expr} {x : Str} {px : Pos} {scope : Scope} {cl : List (Str × Addr)} {pos : Pos} {I : Addr} {fp : List Addr} {n : Nat} {P : Nat → Value → Prop} {St : Nat → Heap → Prop} {S : Led → Prop} {Dr : Drawn → Prop} {J : Nat → List Value → Led → Prop} {led0 : Led} {RR : Value → Addr → Result → Shared → Prop}
    (W : Walks prog w A I fp [I] n P St) (hsz : n ≤ 1000) (hIo : ∀ i h, St i h → ∃ o, h.get? I = some o)
    (hSt : ∀ i h h' o nw, St i h → h.get? I = some o → h'.get? I = some o → (∀ b o, h₀.get? b = some o → h'.get? b = some o) → News h₀ L h' nw → S nw → St i h')
    (hcell : ∀ y ∈ scope.names, y.2 ≠ .cell) (hkind : scope.kind = .function) (hx : scope.names.lookup x = some .local) (hst : St 0 s.heap) (hfp : ∀ b ∈ fp, b < s.heap.objs.size)
    (F : Fr h₀ L s.heap m) (N : News h₀ L s.heap led0) (hIL : L ≠ I) (hI₀ : h₀.get? I = none) (off : ∀ p ∈ led0, p.1 ≠ I) (hS : S led0) (hD : Dr s.drawn) (hJ : J 0 [] led0)
    (turn : ∀ i v ys led oI C oC D m₂ h tk dr (E' : Value → Shared → Prop), P i v → i < n → Dr dr → ys.length = i → LCg.NsObj oC m₂ → m₂ x = some v → Fr h₀ L h m → News h₀ L h ((I, oI) :: (C, oC) :: (D, LCg.lst ys) :: led) → LCg.Off3 I C D led → ((@Ne Nat I C) ∧ (@Ne Nat I D) ∧ (@Ne Nat C D)) → (@LT.lt Nat _ I D ∧ @LT.lt Nat _ D C) → S led → J i ys led →
      wpAny (model prog w) A (eval elt (compEnvC scope cl C env)) (LBack h₀ L m s Dr I oI C oC D (LCg.lst ys) S (fun y led' => J (i + 1) (ys ++ [y]) led')) E' { s with heap := h, toks := tk, drawn := dr })
    (hRR : ∀ D C h tk dr m' ys led, (∀ p ∈ led0, p.1 < D) → Dr dr → ys.length = n → Fr h₀ L h m → News h₀ L h ((D, LCg.lst ys) :: led) → (∀ p ∈ led, p.1 ≠ D) → h.Ns C m' → h₀.get? C = none → h₀.get? D = none → C ≠ L → D ≠ L → C ≠ D → (∀ p ∈ led, p.1 ≠ C) → S led → J n ys led → RR (.ref D) C (.ok .next) { s with heap := h, toks := tk, drawn := dr }) :
    wpAny (model prog w) A (newList []) (fun acc s₃ => wpAny (model prog w) A (newFunctionEnv scope env.globals cl [] env.qual none .none (some env)) (fun cenv s₄ =>
      codeAny (model prog w) A (.compStart (.ListComp elt [⟨.Name x px, iter, [], 0⟩] scope pos) 0 (.ref I) acc { cenv with scope := relabel scope env }) (RR acc cenv.locals) s₄) E s₃) E s := ((lc_block.spec9 lc_block.core9 (((((prog, w), A), ((E, s), h₀)), (((L, m), env), ((elt, iter), x))), ((((px, cl), pos), ((I, fp), n)), (((P, St), S), ((Dr, J), led0)))) : lc_block.Claim9 prog w A E s h₀ L m env elt iter x px cl pos I fp n P St S Dr J led0)) scope RR W hsz hIo hSt hcell hkind hx hst hfp F N hIL hI₀ off hS hD hJ turn hRR
end
end
end
section
section
variable (prog : Program) (w : World) (loose : List Str) (mean : ExcName → Option Value) (mg mb : Str → Option Value)
section
variable {prog : Program} {w : World} {A : Around} {E : Value → Shared → Prop} {s : Shared} {h₀ : Heap} {L : Addr} {m : Str → Option Value} {env : Env}
def LcAt (prog : Program) (w : World) (A : Around) (E : Value → Shared → Prop) (env : Env) (cl : List (Str × Addr)) (elt iter : PySem.Expr) (x : Str) (px : Pos) (scope : Scope) (pos : Pos) (use : Option (Value → Sem Unit)) (Q : Value → Shared → Prop) (it : Value) (s₂ : Shared) : Prop :=
  wpAny (model prog w) A (newList []) (fun acc s₃ => wpAny (model prog w) A (newFunctionEnv scope env.globals cl [] env.qual none .none (some env)) (fun cenv s₄ =>
      codeAny (model prog w) A (.compStart (.ListComp elt [⟨.Name x px, iter, [], 0⟩] scope pos) 0 it acc { cenv with scope := relabel scope env }) (compPost (model prog w) A E use Q acc cenv.locals) s₄) E s₃) E s₂
def LGone (C : Addr) (Qn : Shared → Prop) (s3 : Shared) : Prop := ∃ m, s3.heap.Ns C m ∧ ∀ h', Heap.SameBut C s3.heap h' → Qn { s3 with heap := h' }
theorem lgone_intro {C : Addr} {oC : Obj} {m₂ : Str → Option Value} {all led : Led} {Qn : Shared → Prop} (hoC : LCg.NsObj oC m₂) (F : Fr h₀ L s.heap m) (N : News h₀ L s.heap all) (hC : (C, oC) ∈ all) (hsub : ∀ p ∈ led, p ∈ all) (hne : AllNe C led)
    (h : ∀ h', Fr h₀ L h' m → News h₀ L h' led → Qn { s with heap := h' }) : LGone C Qn s :=
  ⟨m₂, hoC.ns (N _ hC).1, fun h' sb => h h' (F.change sb (N _ hC).2.1 (N _ hC).2.2) fun p hp => ⟨sb.extBut _ _ (allNe_to hne p hp) (N _ (hsub p hp)).1, (N _ (hsub p hp)).2⟩⟩
theorem lc_eval {elt iter : PySem.Expr} {x : Str} {px pos : Pos} {scope : Scope} {cl : List (Str × Addr)} {Q : Value → Shared → Prop}
    (hclos : closureFor scope env = pure cl) (hkind : scope.kind = .function) (hnames : ∀ y ∈ scope.names, y.2 = .local → scope.names.lookup y.1 = some .local)
    (h : wpAny (model prog w) A (eval iter env) (fun xv s₁ => wpAny (model prog w) A (pyIter xv) (LcAt prog w A E env cl elt iter x px scope pos none Q) E s₁) E s)
    (hs : ∀ x, foldedSetIterable iter env x = pure x := by intro _; rfl) :
    wpAny (model prog w) A (eval (.ListComp elt [⟨.Name x px, iter, [], 0⟩] scope pos) env) Q E s := by
  rw [eval_ListComp]
  exact wpAny_comprehension_free (use := none) rfl hs hclos hkind hnames h
theorem lc_assign {elt iter : PySem.Expr} {x y : Str} {px py pos spos : Pos} {scope : Scope} {cl : List (Str × Addr)} {Q : Flow → Shared → Prop}
    (hsw : swapsWith (.ListComp elt [⟨.Name x px, iter, [], 0⟩] scope pos) (some (.Name y py)) spos.line env = pure true)
    (hclos : closureFor scope env = pure cl) (hkind : scope.kind = .function) (hnames : ∀ y ∈ scope.names, y.2 = .local → scope.names.lookup y.1 = some .local)
    (h : wpAny (model prog w) A (eval iter env) (fun xv s₁ => wpAny (model prog w) A (pyIter xv) (LcAt prog w A E env cl elt iter x px scope pos (some (assign (.Name y py) env)) (fun _ s' => Q .next s')) E s₁) E s)
    (hs : ∀ x, foldedSetIterable iter env x = pure x := by intro _; rfl) :
    wpAny (model prog w) A (exec (.Assign [.Name y py] (.ListComp elt [⟨.Name x px, iter, [], 0⟩] scope pos) spos) env) Q E s := by
  rw [exec_Assign_Name_used _ _ _ _ hsw]
  refine wpAny_bind (wpAny_standAt (wpAny_bind ?_))
  show wpAny _ A (do let _ ← comprehension (.ListComp elt [⟨.Name x px, iter, [], 0⟩] scope pos) scope env _ (newList []) false (eval iter env) (some (assign (.Name y py) env))) _ _ s
  exact wpAny_bind (wpAny_mono (wpAny_comprehension_free (use := some (assign (.Name y py) env)) (Q := fun _ s' => Q .next s') rfl hs hclos hkind hnames h) (fun _ s' hq => wpAny_pure (wpAny_pure hq)) fun _ _ e => e)
section
variable {elt iter : PySem.Expr} {x : Str} {px pos : Pos} {scope : Scope} {cl : List (Str × Addr)} {Q : Value → Shared → Prop} {Dr : Drawn → Prop} {led0 : Led}
theorem lc_any {I : Addr} {fp : List Addr} {n : Nat} {P : Nat → Value → Prop} {St : Nat → Heap → Prop} {S : Led → Prop} {J : Nat → List Value → Led → Prop}
    (W : Walks prog w A I fp [I] n P St) (hsz : n ≤ 1000) (hIo : ∀ i h, St i h → ∃ o, h.get? I = some o)
    (hSt : ∀ i h h' o nw, St i h → h.get? I = some o → h'.get? I = some o → (∀ b o, h₀.get? b = some o → h'.get? b = some o) → News h₀ L h' nw → S nw → St i h')
    (hcell : ∀ y ∈ scope.names, y.2 ≠ .cell) (hkind : scope.kind = .function) (hx : scope.names.lookup x = some .local) (hst : St 0 s.heap) (hfp : ∀ b ∈ fp, b < s.heap.objs.size)
    (F : Fr h₀ L s.heap m) (N : News h₀ L s.heap led0) (hIL : L ≠ I) (hI₀ : h₀.get? I = none) (off : ∀ p ∈ led0, p.1 ≠ I) (hS : S led0) (hD : Dr s.drawn) (hJ : J 0 [] led0)
    (turn : ∀ i v ys led oI C oC D m₂ h tk dr (E' : Value → Shared → Prop), P i v → i < n → Dr dr → ys.length = i → LCg.NsObj oC m₂ → m₂ x = some v → Fr h₀ L h m → News h₀ L h ((I, oI) :: (C, oC) :: (D, LCg.lst ys) :: led) → LCg.Off3 I C D led → ((@Ne Nat I C) ∧ (@Ne Nat I D) ∧ (@Ne Nat C D)) → (@LT.lt Nat _ I D ∧ @LT.lt Nat _ D C) → S led → J i ys led →
      wpAny (model prog w) A (eval elt (compEnvC scope cl C env)) (LBack h₀ L m s Dr I oI C oC D (LCg.lst ys) S (fun y led' => J (i + 1) (ys ++ [y]) led')) E' { s with heap := h, toks := tk, drawn := dr })
    (fin : ∀ D h tk dr ys led, (∀ p ∈ led0, p.1 < D) → Dr dr → ys.length = n → Fr h₀ L h m → News h₀ L h ((D, LCg.lst ys) :: led) → AllNe D led → S led → J n ys led → Q (.ref D) { s with heap := h, toks := tk, drawn := dr }) :
    LcAt prog w A E env cl elt iter x px scope pos none Q (.ref I) s := by
  refine lc_block W hsz hIo hSt hcell hkind hx hst hfp F N hIL hI₀ off hS hD hJ turn ?_
  intro D C h tk dr m' ys led hbl hd hyl F' N' o1 ns nC nD cl' dl cd oC hS' hJ'
  refine ⟨m', ns, fun h' sb => fin D h' tk dr ys led hbl hd hyl (F'.change sb cl' nC) (fun p hp => ?_) (allNe_of o1) hS' hJ'⟩
  refine ⟨sb.extBut _ _ ?_ (N' p hp).1, (N' p hp).2⟩
  k_extra "g"
  rcases List.mem_cons.mp hp with rfl | hp <;> k_extra "h"
  · exact Ne.symm cd
  · exact oC p hp
theorem lc_anyA {y : Str} {py : Pos} {Q : Shared → Prop} {I : Addr} {fp : List Addr} {n : Nat} {P : Nat → Value → Prop} {St : Nat → Heap → Prop} {S : Led → Prop} {J : Nat → List Value → Led → Prop}
    (W : Walks prog w A I fp [I] n P St) (hsz : n ≤ 1000) (hIo : ∀ i h, St i h → ∃ o, h.get? I = some o)
    (hSt : ∀ i h h' o nw, St i h → h.get? I = some o → h'.get? I = some o → (∀ b o, h₀.get? b = some o → h'.get? b = some o) → News h₀ L h' nw → S nw → St i h')
    (hcell : ∀ y ∈ scope.names, y.2 ≠ .cell) (hkind : scope.kind = .function) (hx : scope.names.lookup x = some .local) (hst : St 0 s.heap) (hfp : ∀ b ∈ fp, b < s.heap.objs.size)
    (F : Fr h₀ L s.heap m) (N : News h₀ L s.heap led0) (hIL : L ≠ I) (hI₀ : h₀.get? I = none) (off : ∀ p ∈ led0, p.1 ≠ I) (hS : S led0) (hD : Dr s.drawn) (hJ : J 0 [] led0)
    (turn : ∀ i v ys led oI C oC D m₂ h tk dr (E' : Value → Shared → Prop), P i v → i < n → Dr dr → ys.length = i → LCg.NsObj oC m₂ → m₂ x = some v → Fr h₀ L h m → News h₀ L h ((I, oI) :: (C, oC) :: (D, LCg.lst ys) :: led) → LCg.Off3 I C D led → ((@Ne Nat I C) ∧ (@Ne Nat I D) ∧ (@Ne Nat C D)) → (@LT.lt Nat _ I D ∧ @LT.lt Nat _ D C) → S led → J i ys led →
      wpAny (model prog w) A (eval elt (compEnvC scope cl C env)) (LBack h₀ L m s Dr I oI C oC D (LCg.lst ys) S (fun y led' => J (i + 1) (ys ++ [y]) led')) E' { s with heap := h, toks := tk, drawn := dr })
    (fin : ∀ D C oC m₂ h tk dr ys led, (∀ p ∈ led0, p.1 < D) → Dr dr → ys.length = n → LCg.NsObj oC m₂ → Fr h₀ L h m → News h₀ L h ((D, LCg.lst ys) :: (C, oC) :: led) → AllNe D led → AllNe C led → @Ne Nat C D → S led → J n ys led →
      wpAny (model prog w) A (assign (.Name y py) env (.ref D)) (fun _ s3 => LGone C Q s3) E { s with heap := h, toks := tk, drawn := dr }) :
    LcAt prog w A E env cl elt iter x px scope pos (some (assign (.Name y py) env)) (fun _ s' => Q s') (.ref I) s := by
  refine lc_block W hsz hIo hSt hcell hkind hx hst hfp F N hIL hI₀ off hS hD hJ turn ?_
  intro D C h tk dr m' ys led hbl hd hyl F' N' o1 ns nC nD cl' dl cd oC hS' hJ'
  k_extra "g"
  obtain ⟨ob, eb, hob⟩ := LCg.ns_obj ns
  k_extra "h"
  refine fin D C ob m' h tk dr ys led hbl hd hyl hob F' (fun p hp => ?_) (allNe_of o1) (allNe_of oC) cd hS' hJ'
  k_extra "g"
  rcases List.mem_cons.mp hp with rfl | hp <;> k_extra "h"
  · exact N' _ (.head _)
  · rcases List.mem_cons.mp hp with rfl | hp
    · exact ⟨eb, cl', nC⟩
    · exact N' _ (.tail _ hp)
theorem lc_list {vs : List Value} {ax c : Nat} (J : Nat → List Value → Led → Prop) (hh : A.handled = none) (hcell : ∀ y ∈ scope.names, y.2 ≠ .cell) (hkind : scope.kind = .function) (hx : scope.names.lookup x = some .local)
    (F : Fr h₀ L s.heap m) (N : News h₀ L s.heap led0) (hl : (ax, W.listOf vs.toArray c) ∈ led0) (hn : vs.length ≤ 60) (hD : Dr s.drawn) (hJ : J 0 [] led0)
    (turn : ∀ i v ys led I oI C oC D m₂ h tk dr (E' : Value → Shared → Prop), vs[i]? = some v → i < vs.length → Dr dr → ys.length = i → LCg.NsObj oC m₂ → m₂ x = some v → Fr h₀ L h m → News h₀ L h ((I, oI) :: (C, oC) :: (D, LCg.lst ys) :: led) → LCg.Off3 I C D led → ((@Ne Nat I C) ∧ (@Ne Nat I D) ∧ (@Ne Nat C D)) → (@LT.lt Nat _ I D ∧ @LT.lt Nat _ D C) → (∀ p ∈ led0, p.1 < I) → (∃ c, (ax, W.listOf vs.toArray c) ∈ led) → J i ys led →
      wpAny (model prog w) A (eval elt (compEnvC scope cl C env)) (LBack h₀ L m s Dr I oI C oC D (LCg.lst ys) (fun led => ∃ c, (ax, W.listOf vs.toArray c) ∈ led) (fun y led' => J (i + 1) (ys ++ [y]) led')) E' { s with heap := h, toks := tk, drawn := dr })
    (fin : ∀ D h tk dr ys led, (∀ p ∈ led0, p.1 < D) → Dr dr → ys.length = vs.length → Fr h₀ L h m → News h₀ L h ((D, LCg.lst ys) :: led) → AllNe D led → (∃ c, (ax, W.listOf vs.toArray c) ∈ led) → J vs.length ys led → Q (.ref D) { s with heap := h, toks := tk, drawn := dr }) :
    wpAny (model prog w) A (pyIter (.ref ax)) (LcAt prog w A E env cl elt iter x px scope pos none Q) E s := by
  have hl' : s.heap.IsList ax vs.toArray := ⟨_, (N _ hl).1, rfl, _, rfl⟩
  have hlt : ax < s.heap.objs.size := Heap.lt_size (N _ hl).1
  refine wpAny_pyIter_list hl' ?_
  have up : ∀ b o, s.heap.get? b = some o → (s.heap.push { cls := .type "list_iterator", data := .fields #[.ref ax, .int 0 0] }).get? b = some o := fun b o e => Heap.get?_push_of_some _ e
  refine lc_any (S := fun led => ∃ c, (ax, W.listOf vs.toArray c) ∈ led) (J := J) (n := vs.length) (Walks.list hh s.heap.objs.size ax (Nat.ne_of_lt hlt) vs.toArray) (by omega) (fun i h st => by obtain ⟨o, e, _⟩ := st.1; exact ⟨o, e⟩) list_st' hcell hkind hx
    ⟨⟨_, Heap.get?_push_size _ rfl, rfl, rfl⟩, hl'.push _⟩ (fun b hb => ?_) (F.keeps up) (N.grown up) (Nat.ne_of_lt F.ns.lt) (next_is_new F) (fun p hp => Nat.ne_of_lt (Heap.lt_size (N p hp).1)) ⟨_, hl⟩ hD hJ (fun i v ys led oI C oC D m₂ h tk dr E' hP q1 q2 q3 q4 q5 q6 q7 q8 q9 q10 q11 q12 => turn i v ys led _ oI C oC D m₂ h tk dr E' (by simpa using hP) q1 q2 q3 q4 q5 q6 q7 q8 q9 q10 (fun p hp => Heap.lt_size (N p hp).1) q11 q12) fin
  show b < (s.heap.push _).objs.size
  rw [Heap.size_push]
  k_extra "g"
  rcases List.mem_cons.mp hb with rfl | hb <;> k_extra "h"
  · exact Nat.lt_succ_self _
  · rw [List.mem_singleton.mp hb]; exact Nat.lt_succ_of_lt hlt
theorem lc_listA {y : Str} {py : Pos} {Q : Shared → Prop} {vs : List Value} {ax c : Nat} (J : Nat → List Value → Led → Prop) (hh : A.handled = none) (hcell : ∀ y ∈ scope.names, y.2 ≠ .cell) (hkind : scope.kind = .function) (hx : scope.names.lookup x = some .local)
    (F : Fr h₀ L s.heap m) (N : News h₀ L s.heap led0) (hl : (ax, W.listOf vs.toArray c) ∈ led0) (hn : vs.length ≤ 60) (hD : Dr s.drawn) (hJ : J 0 [] led0)
    (turn : ∀ i v ys led I oI C oC D m₂ h tk dr (E' : Value → Shared → Prop), vs[i]? = some v → i < vs.length → Dr dr → ys.length = i → LCg.NsObj oC m₂ → m₂ x = some v → Fr h₀ L h m → News h₀ L h ((I, oI) :: (C, oC) :: (D, LCg.lst ys) :: led) → LCg.Off3 I C D led → ((@Ne Nat I C) ∧ (@Ne Nat I D) ∧ (@Ne Nat C D)) → (@LT.lt Nat _ I D ∧ @LT.lt Nat _ D C) → (∀ p ∈ led0, p.1 < I) → (∃ c, (ax, W.listOf vs.toArray c) ∈ led) → J i ys led →
      wpAny (model prog w) A (eval elt (compEnvC scope cl C env)) (LBack h₀ L m s Dr I oI C oC D (LCg.lst ys) (fun led => ∃ c, (ax, W.listOf vs.toArray c) ∈ led) (fun y led' => J (i + 1) (ys ++ [y]) led')) E' { s with heap := h, toks := tk, drawn := dr })
    (fin : ∀ D C oC m₂ h tk dr ys led, (∀ p ∈ led0, p.1 < D) → Dr dr → ys.length = vs.length → LCg.NsObj oC m₂ → Fr h₀ L h m → News h₀ L h ((D, LCg.lst ys) :: (C, oC) :: led) → AllNe D led → AllNe C led → @Ne Nat C D → (∃ c, (ax, W.listOf vs.toArray c) ∈ led) → J vs.length ys led →
      wpAny (model prog w) A (assign (.Name y py) env (.ref D)) (fun _ s3 => LGone C Q s3) E { s with heap := h, toks := tk, drawn := dr }) :
    wpAny (model prog w) A (pyIter (.ref ax)) (LcAt prog w A E env cl elt iter x px scope pos (some (assign (.Name y py) env)) (fun _ s' => Q s')) E s := by
  have hl' : s.heap.IsList ax vs.toArray := ⟨_, (N _ hl).1, rfl, _, rfl⟩
  have hlt : ax < s.heap.objs.size := Heap.lt_size (N _ hl).1
  refine wpAny_pyIter_list hl' ?_
  have up : ∀ b o, s.heap.get? b = some o → (s.heap.push { cls := .type "list_iterator", data := .fields #[.ref ax, .int 0 0] }).get? b = some o := fun b o e => Heap.get?_push_of_some _ e
  refine lc_anyA (S := fun led => ∃ c, (ax, W.listOf vs.toArray c) ∈ led) (J := J) (n := vs.length) (Walks.list hh s.heap.objs.size ax (Nat.ne_of_lt hlt) vs.toArray) (by omega) (fun i h st => by obtain ⟨o, e, _⟩ := st.1; exact ⟨o, e⟩) list_st' hcell hkind hx
    ⟨⟨_, Heap.get?_push_size _ rfl, rfl, rfl⟩, hl'.push _⟩ (fun b hb => ?_) (F.keeps up) (N.grown up) (Nat.ne_of_lt F.ns.lt) (next_is_new F) (fun p hp => Nat.ne_of_lt (Heap.lt_size (N p hp).1)) ⟨_, hl⟩ hD hJ (fun i v ys led oI C oC D m₂ h tk dr E' hP q1 q2 q3 q4 q5 q6 q7 q8 q9 q10 q11 q12 => turn i v ys led _ oI C oC D m₂ h tk dr E' (by simpa using hP) q1 q2 q3 q4 q5 q6 q7 q8 q9 q10 (fun p hp => Heap.lt_size (N p hp).1) q11 q12) fin
  show b < (s.heap.push _).objs.size
  rw [Heap.size_push]
  k_extra "g"
  rcases List.mem_cons.mp hb with rfl | hb <;> k_extra "h"
  · exact Nat.lt_succ_self _
  · rw [List.mem_singleton.mp hb]; exact Nat.lt_succ_of_lt hlt
theorem lc_tuple {vs : List Value} {ax c : Nat} (J : Nat → List Value → Led → Prop) (hh : A.handled = none) (hcell : ∀ y ∈ scope.names, y.2 ≠ .cell) (hkind : scope.kind = .function) (hx : scope.names.lookup x = some .local)
    (F : Fr h₀ L s.heap m) (N : News h₀ L s.heap led0) (hl : (ax, ({ cls := .type "tuple", data := .seq vs.toArray c } : Obj)) ∈ led0) (hn : vs.length ≤ 60) (hD : Dr s.drawn) (hJ : J 0 [] led0)
    (turn : ∀ i v ys led I oI C oC D m₂ h tk dr (E' : Value → Shared → Prop), vs[i]? = some v → i < vs.length → Dr dr → ys.length = i → LCg.NsObj oC m₂ → m₂ x = some v → Fr h₀ L h m → News h₀ L h ((I, oI) :: (C, oC) :: (D, LCg.lst ys) :: led) → LCg.Off3 I C D led → ((@Ne Nat I C) ∧ (@Ne Nat I D) ∧ (@Ne Nat C D)) → (@LT.lt Nat _ I D ∧ @LT.lt Nat _ D C) → (∀ p ∈ led0, p.1 < I) → (∃ c, (ax, ({ cls := .type "tuple", data := .seq vs.toArray c } : Obj)) ∈ led) → J i ys led →
      wpAny (model prog w) A (eval elt (compEnvC scope cl C env)) (LBack h₀ L m s Dr I oI C oC D (LCg.lst ys) (fun led => ∃ c, (ax, ({ cls := .type "tuple", data := .seq vs.toArray c } : Obj)) ∈ led) (fun y led' => J (i + 1) (ys ++ [y]) led')) E' { s with heap := h, toks := tk, drawn := dr })
    (fin : ∀ D h tk dr ys led, (∀ p ∈ led0, p.1 < D) → Dr dr → ys.length = vs.length → Fr h₀ L h m → News h₀ L h ((D, LCg.lst ys) :: led) → AllNe D led → (∃ c, (ax, ({ cls := .type "tuple", data := .seq vs.toArray c } : Obj)) ∈ led) → J vs.length ys led → Q (.ref D) { s with heap := h, toks := tk, drawn := dr }) :
    wpAny (model prog w) A (pyIter (.ref ax)) (LcAt prog w A E env cl elt iter x px scope pos none Q) E s := by
  have hl' : s.heap.IsTuple ax vs.toArray := ⟨_, (N _ hl).1, rfl, _, rfl⟩
  have hlt : ax < s.heap.objs.size := Heap.lt_size (N _ hl).1
  refine wpAny_pyIter_tuple hl' ?_
  have up : ∀ b o, s.heap.get? b = some o → (s.heap.push { cls := .type "tuple_iterator", data := .fields #[.ref ax, .int 0 0] }).get? b = some o := fun b o e => Heap.get?_push_of_some _ e
  refine lc_any (S := fun led => ∃ c, (ax, ({ cls := .type "tuple", data := .seq vs.toArray c } : Obj)) ∈ led) (J := J) (n := vs.length) (Walks.tuple hh s.heap.objs.size ax (Nat.ne_of_lt hlt) vs.toArray) (by omega) (fun i h st => by obtain ⟨o, e, _⟩ := st.1; exact ⟨o, e⟩) ?_ hcell hkind hx
    ⟨⟨_, Heap.get?_push_size _ rfl, rfl, rfl⟩, hl'.push _⟩ (fun b hb => ?_) (F.keeps up) (N.grown up) (Nat.ne_of_lt F.ns.lt) (next_is_new F) (fun p hp => Nat.ne_of_lt (Heap.lt_size (N p hp).1)) ⟨_, hl⟩ hD hJ (fun i v ys led oI C oC D m₂ h tk dr E' hP q1 q2 q3 q4 q5 q6 q7 q8 q9 q10 q11 q12 => turn i v ys led _ oI C oC D m₂ h tk dr E' (by simpa using hP) q1 q2 q3 q4 q5 q6 q7 q8 q9 q10 (fun p hp => Heap.lt_size (N p hp).1) q11 q12) fin
  · rintro i h h' o nw st e e' k N2 ⟨n2, hm⟩
    refine ⟨?_, ⟨_, (N2 _ hm).1, rfl, n2, rfl⟩⟩
    k_extra "g"
    obtain ⟨o', q, r⟩ := st.1
    k_extra "h"
    rw [e] at q; cases q
    exact ⟨o, e', r⟩
  show b < (s.heap.push _).objs.size
  rw [Heap.size_push]
  k_extra "g"
  rcases List.mem_cons.mp hb with rfl | hb <;> k_extra "h"
  · exact Nat.lt_succ_self _
  · rw [List.mem_singleton.mp hb]; exact Nat.lt_succ_of_lt hlt
end
end
end
end
section
theorem L_T_FC.ln9_T_FC : True := trivial
open L_P L_F L_L L_T_FC
section
variable (prog : Program) (w : World) (loose : List Str) (mean : ExcName → Option Value) (mg mb : Str → Option Value)
theorem kw9_FC_1 : True := by
  (k_with "lT_FC" => fail_if_success (fail_if_success (have h9 := ln9_T_FC)))
  (k_with "subscriptTail Name Constant ref int" => (k_extra "lT_FC"; (k_here; (with_reducible show wpAny _ _ (subscriptTail _ _ (Value.ref _) (Value.int _ _)) _ _ _); k_dflt (refine' get_A ?k1 ?k2 ?k3 ?k4 ?k5 ?_ ?k6; (case k1 => k_asm); (case k2 => k_mem); (case k3 => exact (Int.toNat_of_nonneg (by decide)).symm); (case k5 => exact rfl); (case k4 => decide); (case k6 => with_unfolding_all rfl); k_whole))))
  trivial
theorem lamp_at {vs : List Value} {ns : List Int} (h : PySem.Paired (fun v n => LampIs v n) vs ns) : ∀ (i : Nat) (v : Value), vs[i]? = some v → ∃ n, ns[i]? = some n ∧ LampIs v n := by
  induction h with
  | nil => intro i v hv; simp at hv
  | cons q r ih =>
    intro i v hv
    cases i with
    | zero => exact ⟨_, rfl, by simpa using (Option.some.inj hv) ▸ q⟩
    | succ i => simpa using ih i v (by simpa using hv)
theorem take_next {α : Type} {l : List α} {i : Nat} {a : α} (h : l[i]? = some a) : l.take (i + 1) = l.take i ++ [a] := by
  rw [List.take_add_one, h]
  rfl
theorem ints3 {ys : List Value} {a b c : Int} (h : IntsAre ys [a, b, c]) : ∃ t u v, ys = [.int a t, .int b u, .int c v] := by
  cases h with
  | cons _ t r => cases r with
    | cons _ u r => cases r with
      | cons _ v r => cases r with
        | nil => exact ⟨t, u, v, rfl⟩
namespace turned_con
noncomputable section
def Claim9 (prog : Program) (w : World) (loose : List Str) (mean : ExcName → Option Value) (mg mb : Str → Option Value) (z lt : Addr) (oz : Obj) (c k n : Nat) (t0 t1 t2 t : Tok) : Prop := ∀ (hc : c < 6) (hk : k < 6), Con prog w loose mean mg mb 342 210 170 [.ref lt, .int (k : Int) t] [(z, oz), (lt, W.listOf #[.int (lampR c) t0, .int (lampG c) t1, .int (lampB c) t2] n)] []
      (fun v mu' nw => ∃ D u0 u1 u2 n', v = .ref D ∧ mu' = [] ∧ nw = [(D, W.listOf #[.int (lampR ((c + k) % 6)) u0, .int (lampG ((c + k) % 6)) u1, .int (lampB ((c + k) % 6)) u2] n')] ∧ @LT.lt Nat _ z D)
abbrev T9 : Type := ((((Program × World) × ((List Str) × (ExcName → Option Value))) × (((Str → Option Value) × (Str → Option Value)) × (Addr × Addr))) × (((Obj × Nat) × (Nat × Nat)) × ((Tok × Tok) × (Tok × Tok))))
def U9 (t : T9) : Prop := Claim9 t.1.1.1.1 t.1.1.1.2 t.1.1.2.1 t.1.1.2.2 t.1.2.1.1 t.1.2.1.2 t.1.2.2.1 t.1.2.2.2 t.2.1.1.1 t.2.1.1.2 t.2.1.2.1 t.2.1.2.2 t.2.2.1.1 t.2.2.1.2 t.2.2.2.1 t.2.2.2.2
@[irreducible] def v9 : T9 := ch9 (by k_extra "NE") U9
theorem spec9 : U9 v9 → ∀ t, U9 t := by with_unfolding_all exact sp9 _ U9
theorem core9 : U9 v9 := by
  refine (let prog := v9.1.1.1.1; let w := v9.1.1.1.2; let loose := v9.1.1.2.1; let mean := v9.1.1.2.2; let mg := v9.1.2.1.1; let mb := v9.1.2.1.2; let z := v9.1.2.2.1; let lt := v9.1.2.2.2; let oz := v9.2.1.1.1; let c := v9.2.1.1.2; let k := v9.2.1.2.1; let n := v9.2.1.2.2; let t0 := v9.2.2.1.1; let t1 := v9.2.2.1.2; let t2 := v9.2.2.2.1; let t := v9.2.2.2.2; (?_ : Claim9 prog w loose mean mg mb z lt oz c k n t0 t1 t2 t))
  clear_value prog w loose mean mg mb z lt oz c k n t0 t1 t2 t
  intro hc hk
  k_extra "g"
  obtain ⟨b1, b2, b3⟩ := lamp_bd c
  obtain ⟨m1, m2⟩ := lamp_mm c hc
  k_extra "h"
  have hh := turn_all ⟨c, hc⟩ ⟨k, hk⟩
  dsimp only at hh
  generalize lampR ((c + k) % 6) = rA at hh ⊢
  generalize lampG ((c + k) % 6) = gA at hh ⊢
  generalize lampB ((c + k) % 6) = bA at hh ⊢
  generalize lampR c = r at *
  generalize lampG c = gg at *
  generalize lampB c = bb at *
  k_extra "CON"
  k_extra "TOLC"
  rename_i D1 u1 u2 u3 h1 tk1 l11 h2 h3 h4 h5 D2 v1 v2 v3 h6 tk2 hv1 hv2 hv3 F1 N9 l12
  have hP : PySem.Paired (fun v n => LampIs v n) [v1, v2, v3] [rA, gA, bA] := .cons hv1 (.cons hv2 (.cons hv3 .nil))
  refine lc_tuple (vs := [v1, v2, v3]) (ax := D2) (c := 0) (Dr := fun d => d = s.drawn) (fun i ys led => led = [(D2, tupOf [v1, v2, v3]), (z, oz), (lt, W.listOf #[.int r t0, .int gg t1, .int bb t2] n)] ∧ IntsAre ys ([rA, gA, bA].take i)) rfl (by decide) rfl rfl F1 (led0 := [(D2, tupOf [v1, v2, v3]), (z, oz), (lt, W.listOf #[.int r t0, .int gg t1, .int bb t2] n)]) (List.forall_mem_cons.mpr ⟨N9 _ (.head _), fun p hp => N9 p (mem_dr 2 hp)⟩) (.head _) (by show 3 ≤ 60; omega) rfl ⟨rfl, .nil⟩ ?turn ?fin
  case turn =>
    intro i v ys led I oI C oC D m₂ h tk dr E' hv hi hdr hyl hC hx F2 N2 off hne hlt hIl hS hJ
    k_extra "g"
    obtain ⟨rfl, hys⟩ := hJ
    subst hdr
    obtain ⟨nn, hnn, hL⟩ := lamp_at hP i v hv
    k_extra "h"
    (first | (refine opq_turn ?_; intro QT9 hT9) | (refine opq_V ?_; intro QT9 hT9))
    k_extra "STEPSD"
    all_goals exact exI_4 _ _ _ _ ⟨rfl, rfl, F2, N2, off, hS, rfl, by rw [take_next hnn]; exact ints_app hys⟩
  case fin =>
    intro D h tk dr ys led hbl hdr hyl F2 N2 hne hS hJ
    k_extra "g"
    obtain ⟨rfl, hys⟩ := hJ
    subst hdr
    obtain ⟨u0, u1, u2, rfl⟩ := ints3 hys
    k_extra "h"
    have hzD : @LT.lt Nat _ z D := hbl _ (.tail _ (.head _))
    have hlD : @LT.lt Nat _ lt D := hbl _ (mem_ix 2 rfl)
    k_extra "LV"
    refine end_pick [] [(D, W.listOf #[.int rA u0, .int gA u1, .int bA u2] 3)] (exI_5 D u0 u1 u2 3 ⟨rfl, rfl, rfl, hzD⟩) ?_ ?_ ?_ ?_
    · k_extra "SUBS"
    · exact List.forall_mem_nil _
    · k_extra "SUBS"
    · k_extra "NES"
end
end turned_con
theorem turned_con (z lt : Addr) (oz : Obj) (c k n : Nat) (t0 t1 t2 t : Tok) (hc : c < 6) (hk : k < 6) :
    Con prog w loose mean mg mb 342 210 170 [.ref lt, .int (k : Int) t] [(z, oz), (lt, W.listOf #[.int (lampR c) t0, .int (lampG c) t1, .int (lampB c) t2] n)] []
      (fun v mu' nw => ∃ D u0 u1 u2 n', v = .ref D ∧ mu' = [] ∧ nw = [(D, W.listOf #[.int (lampR ((c + k) % 6)) u0, .int (lampG ((c + k) % 6)) u1, .int (lampB ((c + k) % 6)) u2] n')] ∧ @LT.lt Nat _ z D) := ((turned_con.spec9 turned_con.core9 ((((prog, w), (loose, mean)), ((mg, mb), (z, lt))), (((oz, c), (k, n)), ((t0, t1), (t2, t)))) : turned_con.Claim9 prog w loose mean mg mb z lt oz c k n t0 t1 t2 t)) hc hk
namespace sixths_con
noncomputable section
def Claim9 (prog : Program) (w : World) (loose : List Str) (mean : ExcName → Option Value) (mg mb : Str → Option Value) (z lt : Addr) (oz : Obj) (c n : Nat) (t0 t1 t2 : Tok) : Prop := ∀ (hc : c < 6), Con prog w loose mean mg mb 342 210 177 [.ref lt] [(z, oz), (lt, W.listOf #[.int (lampR c) t0, .int (lampG c) t1, .int (lampB c) t2] n)] []
      (fun v mu' nw => mu' = [] ∧ nw = [] ∧ ∃ u, v = .int (c : Int) u)
abbrev T9 : Type := ((((Program × World) × ((List Str) × (ExcName → Option Value))) × (((Str → Option Value) × (Str → Option Value)) × Addr)) × (((Addr × Obj) × (Nat × Nat)) × ((Tok × Tok) × Tok)))
def U9 (t : T9) : Prop := Claim9 t.1.1.1.1 t.1.1.1.2 t.1.1.2.1 t.1.1.2.2 t.1.2.1.1 t.1.2.1.2 t.1.2.2 t.2.1.1.1 t.2.1.1.2 t.2.1.2.1 t.2.1.2.2 t.2.2.1.1 t.2.2.1.2 t.2.2.2
@[irreducible] def v9 : T9 := ch9 (by k_extra "NE") U9
theorem spec9 : U9 v9 → ∀ t, U9 t := by with_unfolding_all exact sp9 _ U9
theorem core9 : U9 v9 := by
  refine (let prog := v9.1.1.1.1; let w := v9.1.1.1.2; let loose := v9.1.1.2.1; let mean := v9.1.1.2.2; let mg := v9.1.2.1.1; let mb := v9.1.2.1.2; let z := v9.1.2.2; let lt := v9.2.1.1.1; let oz := v9.2.1.1.2; let c := v9.2.1.2.1; let n := v9.2.1.2.2; let t0 := v9.2.2.1.1; let t1 := v9.2.2.1.2; let t2 := v9.2.2.2; (?_ : Claim9 prog w loose mean mg mb z lt oz c n t0 t1 t2))
  clear_value prog w loose mean mg mb z lt oz c n t0 t1 t2
  intro hc
  k_extra "g"
  obtain ⟨b1, b2, b3⟩ := lamp_bd c
  obtain ⟨m1, m2⟩ := lamp_mm c hc
  obtain ⟨x1, x2, x3⟩ := six_all ⟨c, hc⟩
  k_extra "h"
  dsimp only at x1 x2 x3
  generalize lampR c = r at *
  generalize lampG c = gg at *
  generalize lampB c = bb at *
  k_extra "CON"
  have e : (Flt.toInt Float64.nearestOf (Float64.mul 4618441417868443648 (hueOf r gg bb))).fmod 6 = (c : Int) := by
    rw [x3, Int.fmod_eq_emod_of_nonneg _ (by decide), Int.emod_eq_of_lt (by omega) (by omega)]
  k_extra "STEPSD"
  k_extra "LV"
  refine end_pick [] [] ⟨rfl, rfl, _, by rw [e]⟩ ?_ ?_ ?_ ?_
  · k_extra "SUBS"
  · exact List.forall_mem_nil _
  · exact List.forall_mem_nil _
  · k_extra "NES"
end
end sixths_con
theorem sixths_con (z lt : Addr) (oz : Obj) (c n : Nat) (t0 t1 t2 : Tok) (hc : c < 6) :
    Con prog w loose mean mg mb 342 210 177 [.ref lt] [(z, oz), (lt, W.listOf #[.int (lampR c) t0, .int (lampG c) t1, .int (lampB c) t2] n)] []
      (fun v mu' nw => mu' = [] ∧ nw = [] ∧ ∃ u, v = .int (c : Int) u) := ((sixths_con.spec9 sixths_con.core9 ((((prog, w), (loose, mean)), ((mg, mb), z)), (((lt, oz), (c, n)), ((t0, t1), t2))) : sixths_con.Claim9 prog w loose mean mg mb z lt oz c n t0 t1 t2)) hc
end
end
section
section
variable (prog : Program) (w : World) (loose : List Str) (mean : ExcName → Option Value) (mg mb : Str → Option Value)
noncomputable abbrev rngObj (a b : Int) (t u v : Tok) : Obj := { cls := .type "range", data := .fields #[.int a t, .int b u, .int 1 v] }
section
variable {prog : Program} {w : World} {A : Around} {E : Value → Shared → Prop} {s : Shared} {env : Env} {h₀ : Heap} {L : Addr} {m : Str → Option Value}
theorem range1_A {n : Int} {t : Tok} {led : Led} {Q : Value → Shared → Prop} (F : Fr h₀ L s.heap m) (N : News h₀ L s.heap led)
    (h : ∀ R t1 t2 h' tk, Fr h₀ L h' m → News h₀ L h' ((R, rngObj 0 n t1 t t2) :: led) → (∀ p ∈ led, p.1 < R) → Q (.ref R) { s with heap := h', toks := tk }) :
    wpAny (model prog w) A (call (.type "range") [.int n t]) Q E s :=
  call_range_1 (h _ _ _ _ _ (F.push _) (N.push F _ rfl) fun p hp => Heap.lt_size (N p hp).1)
theorem range2_A {a b : Int} {t u : Tok} {led : Led} {Q : Value → Shared → Prop} (F : Fr h₀ L s.heap m) (N : News h₀ L s.heap led)
    (h : ∀ R t2 h' tk, Fr h₀ L h' m → News h₀ L h' ((R, rngObj a b t u t2) :: led) → (∀ p ∈ led, p.1 < R) → Q (.ref R) { s with heap := h', toks := tk }) :
    wpAny (model prog w) A (call (.type "range") [.int a t, .int b u]) Q E s :=
  call_range_2 (h _ _ _ _ (F.push _) (N.push F _ rfl) fun p hp => Heap.lt_size (N p hp).1)
theorem range_size {a b : Int} {n : Nat} (hn : b - a = (n : Int)) : Builtin.Range.rangeSize a b 1 = (n : Int) := by
  rw [rangeSize_one]
  split <;> omega
theorem owit_range {v : Str} {body : List Stmt} {Q : Flow → Shared → Prop} {R : Addr} {a b : Int} {t u t' : Tok} {n : Nat} {Dr : Drawn → Prop} {m0 : Str → Option Value} {led0 : Led} (J : Nat → (Str → Option Value) → Led → Prop)
    (hh : A.handled = none) (F : Fr h₀ L s.heap m0) (N : News h₀ L s.heap led0) (hl : (R, rngObj a b t u t') ∈ led0) (hab : b - a = (n : Int)) (hn : n ≤ 60) (ha : -1000 ≤ a ∧ a ≤ 1000) (hD : Dr s.drawn) (hJ : J 0 m0 led0)
    (turn : ∀ i tx h tk dr m' led I it, i < n → Dr dr → Fr h₀ L h m' → News h₀ L h ((I, it) :: led) → AllNe I led → (∀ p ∈ led0, p.1 < I) → J i m' led →
      wpAny (model prog w) A (storeName env v (.int (a + (i : Int)) tx)) (fun _ s₂ => wpAny (model prog w) A (execs body env) (OwitFlow Q (Back h₀ L s Dr I it (fun _ => True) (J (i + 1)))) E s₂) E { s with heap := h, toks := tk, drawn := dr })
    (fin : ∀ h tk dr m' led, Dr dr → Fr h₀ L h m' → News h₀ L h led → J n m' led → Q .next { s with heap := h, toks := tk, drawn := dr }) :
    wpAny (model prog w) A (pyIter (.ref R)) (OwitAt prog w A E env v body Q) E s := by
  have hr : IsRange s.heap R a b 1 t u t' := (N _ hl).1
  refine wpAny_pyIter_range hr (small_one (by omega) (by omega) (by omega) (by omega)) ?_
  rw [range_size hab]
  refine OwitAt.intro ?_
  have up : ∀ b o, s.heap.get? b = some o → (s.heap.push { cls := .type "range_iterator", data := .fields #[rawInt a, rawInt (n : Int), rawInt 1] }).get? b = some o := fun b o e => Heap.get?_push_of_some _ e
  refine owit_walks (S := fun _ => True) (J := J) (n := n) (LCg.range_walks hh a n) hn (fun i h st => ⟨_, st⟩) LCg.range_st
    (Nat.ne_of_lt F.ns.lt) (next_is_new F) (F.keeps up) (N.grown up) (allNe_of fun p hp => Nat.ne_of_lt (Heap.lt_size (N p hp).1)) (by simpa using Heap.get?_push_size _ rfl) trivial hD hJ (fun i x h tk dr m' led it hP hi hd F' N' off _ hJ' => ?_) (fun h tk dr m' led hd F' N' _ hJ' => fin h tk dr m' led hd F' N' hJ')
  k_extra "g"
  obtain ⟨tx, rfl⟩ := hP
  k_extra "h"
  exact turn i tx h tk dr m' led _ it hi hd F' N' off (fun p hp => Heap.lt_size (N p hp).1) hJ'
theorem lc_range {elt iter : PySem.Expr} {x : Str} {px pos : Pos} {scope : Scope} {cl : List (Str × Addr)} {Q : Value → Shared → Prop} {Dr : Drawn → Prop} {led0 : Led} {R : Addr} {a b : Int} {t u t' : Tok} {n : Nat} (J : Nat → List Value → Led → Prop) (hh : A.handled = none) (hcell : ∀ y ∈ scope.names, y.2 ≠ .cell) (hkind : scope.kind = .function) (hx : scope.names.lookup x = some .local)
    (F : Fr h₀ L s.heap m) (N : News h₀ L s.heap led0) (hl : (R, rngObj a b t u t') ∈ led0) (hab : b - a = (n : Int)) (hn : n ≤ 60) (ha : -1000 ≤ a ∧ a ≤ 1000) (hD : Dr s.drawn) (hJ : J 0 [] led0)
    (turn : ∀ i tx ys led I oI C oC D m₂ h tk dr (E' : Value → Shared → Prop), i < n → Dr dr → ys.length = i → LCg.NsObj oC m₂ → m₂ x = some (.int (a + (i : Int)) tx) → Fr h₀ L h m → News h₀ L h ((I, oI) :: (C, oC) :: (D, LCg.lst ys) :: led) → LCg.Off3 I C D led → ((@Ne Nat I C) ∧ (@Ne Nat I D) ∧ (@Ne Nat C D)) → (@LT.lt Nat _ I D ∧ @LT.lt Nat _ D C) → (∀ p ∈ led0, p.1 < I) → J i ys led →
      wpAny (model prog w) A (eval elt (compEnvC scope cl C env)) (LBack h₀ L m s Dr I oI C oC D (LCg.lst ys) (fun _ => True) (fun y led' => J (i + 1) (ys ++ [y]) led')) E' { s with heap := h, toks := tk, drawn := dr })
    (fin : ∀ D h tk dr ys led, (∀ p ∈ led0, p.1 < D) → Dr dr → ys.length = n → Fr h₀ L h m → News h₀ L h ((D, LCg.lst ys) :: led) → AllNe D led → J n ys led → Q (.ref D) { s with heap := h, toks := tk, drawn := dr }) :
    wpAny (model prog w) A (pyIter (.ref R)) (LcAt prog w A E env cl elt iter x px scope pos none Q) E s := by
  have hr : IsRange s.heap R a b 1 t u t' := (N _ hl).1
  refine wpAny_pyIter_range hr (small_one (by omega) (by omega) (by omega) (by omega)) ?_
  rw [range_size hab]
  have up : ∀ b o, s.heap.get? b = some o → (s.heap.push { cls := .type "range_iterator", data := .fields #[rawInt a, rawInt (n : Int), rawInt 1] }).get? b = some o := fun b o e => Heap.get?_push_of_some _ e
  refine lc_any (S := fun _ => True) (J := J) (n := n) (LCg.range_walks hh a n) (by omega) (fun i h st => ⟨_, st⟩) LCg.range_st hcell hkind hx
    (by simpa using Heap.get?_push_size _ rfl) (fun b hb => ?_) (F.keeps up) (N.grown up) (Nat.ne_of_lt F.ns.lt) (next_is_new F) (fun p hp => Nat.ne_of_lt (Heap.lt_size (N p hp).1)) trivial hD hJ (fun i v ys led oI C oC D m₂ h tk dr E' hP hi hd hy hC hv F' N' o1 o2 o3 _ hJ' => ?_) (fun D h tk dr ys led hb hd hy F' N' o1 _ hJ' => fin D h tk dr ys led hb hd hy F' N' o1 hJ')
  · rw [List.mem_singleton.mp hb]
    show s.heap.objs.size < (s.heap.push _).objs.size
    rw [Heap.size_push]
    exact Nat.lt_succ_self _
  · obtain ⟨tx, rfl⟩ := hP
    exact turn i tx ys led _ oI C oC D m₂ h tk dr E' hi hd hy hC hv F' N' o1 o2 o3 (fun p hp => Heap.lt_size (N p hp).1) hJ'
theorem lc_rangeA {y : Str} {py : Pos} {elt iter : PySem.Expr} {x : Str} {px pos : Pos} {scope : Scope} {cl : List (Str × Addr)} {Q : Shared → Prop} {Dr : Drawn → Prop} {led0 : Led} {R : Addr} {a b : Int} {t u t' : Tok} {n : Nat} (J : Nat → List Value → Led → Prop) (hh : A.handled = none) (hcell : ∀ y ∈ scope.names, y.2 ≠ .cell) (hkind : scope.kind = .function) (hx : scope.names.lookup x = some .local)
    (F : Fr h₀ L s.heap m) (N : News h₀ L s.heap led0) (hl : (R, rngObj a b t u t') ∈ led0) (hab : b - a = (n : Int)) (hn : n ≤ 60) (ha : -1000 ≤ a ∧ a ≤ 1000) (hD : Dr s.drawn) (hJ : J 0 [] led0)
    (turn : ∀ i tx ys led I oI C oC D m₂ h tk dr (E' : Value → Shared → Prop), i < n → Dr dr → ys.length = i → LCg.NsObj oC m₂ → m₂ x = some (.int (a + (i : Int)) tx) → Fr h₀ L h m → News h₀ L h ((I, oI) :: (C, oC) :: (D, LCg.lst ys) :: led) → LCg.Off3 I C D led → ((@Ne Nat I C) ∧ (@Ne Nat I D) ∧ (@Ne Nat C D)) → (@LT.lt Nat _ I D ∧ @LT.lt Nat _ D C) → (∀ p ∈ led0, p.1 < I) → J i ys led →
      wpAny (model prog w) A (eval elt (compEnvC scope cl C env)) (LBack h₀ L m s Dr I oI C oC D (LCg.lst ys) (fun _ => True) (fun y led' => J (i + 1) (ys ++ [y]) led')) E' { s with heap := h, toks := tk, drawn := dr })
    (fin : ∀ D C oC m₂ h tk dr ys led, (∀ p ∈ led0, p.1 < D) → Dr dr → ys.length = n → LCg.NsObj oC m₂ → Fr h₀ L h m → News h₀ L h ((D, LCg.lst ys) :: (C, oC) :: led) → AllNe D led → AllNe C led → @Ne Nat C D → J n ys led →
      wpAny (model prog w) A (assign (.Name y py) env (.ref D)) (fun _ s3 => LGone C Q s3) E { s with heap := h, toks := tk, drawn := dr }) :
    wpAny (model prog w) A (pyIter (.ref R)) (LcAt prog w A E env cl elt iter x px scope pos (some (assign (.Name y py) env)) (fun _ s' => Q s')) E s := by
  have hr : IsRange s.heap R a b 1 t u t' := (N _ hl).1
  refine wpAny_pyIter_range hr (small_one (by omega) (by omega) (by omega) (by omega)) ?_
  rw [range_size hab]
  have up : ∀ b o, s.heap.get? b = some o → (s.heap.push { cls := .type "range_iterator", data := .fields #[rawInt a, rawInt (n : Int), rawInt 1] }).get? b = some o := fun b o e => Heap.get?_push_of_some _ e
  refine lc_anyA (S := fun _ => True) (J := J) (n := n) (LCg.range_walks hh a n) (by omega) (fun i h st => ⟨_, st⟩) LCg.range_st hcell hkind hx
    (by simpa using Heap.get?_push_size _ rfl) (fun b hb => ?_) (F.keeps up) (N.grown up) (Nat.ne_of_lt F.ns.lt) (next_is_new F) (fun p hp => Nat.ne_of_lt (Heap.lt_size (N p hp).1)) trivial hD hJ (fun i v ys led oI C oC D m₂ h tk dr E' hP hi hd hy hC hv F' N' o1 o2 o3 _ hJ' => ?_) (fun D C oC m₂ h tk dr ys led hb hd hy hC F' N' o1 o2 o3 _ hJ' => fin D C oC m₂ h tk dr ys led hb hd hy hC F' N' o1 o2 o3 hJ')
  · rw [List.mem_singleton.mp hb]
    show s.heap.objs.size < (s.heap.push _).objs.size
    rw [Heap.size_push]
    exact Nat.lt_succ_self _
  · obtain ⟨tx, rfl⟩ := hP
    exact turn i tx ys led _ oI C oC D m₂ h tk dr E' hi hd hy hC hv F' N' o1 o2 o3 (fun p hp => Heap.lt_size (N p hp).1) hJ'
end
end
end
section
section
variable (prog : Program) (w : World) (loose : List Str) (mean : ExcName → Option Value) (mg mb : Str → Option Value)
section
variable {prog : Program} {w : World} {A : Around} {E : Value → Shared → Prop} {s : Shared} {h₀ : Heap} {L l : Addr} {m : Str → Option Value} {news : Led}
theorem get_I {vs : List Value} {ns : List Int} {n : Nat} {i : Int} {k : Nat} {u : Tok} {Q : Value → Shared → Prop} {value slice : PySem.Expr} (N : News h₀ L s.heap news) (hl : (l, W.listOf vs.toArray n) ∈ news) (hI : IntsAre vs ns) (hi : i = (k : Int)) (hk : k < vs.length) (hk2 : k ≤ 100) (h : ∀ t, Q (.int (ns.getD k 0) t) s)
    (hs : subscripted slice false (.ref l) (.int i u) = operate [.ref l, .int i u] (getItem (.ref l) (.int i u)) := by with_unfolding_all rfl) : wpAny (model prog w) A (subscriptTail value slice (.ref l) (.int i u)) Q E s := by
  have e : vs[k]? = some vs[k] := List.getElem?_eq_getElem hk
  k_extra "g"
  obtain ⟨y, t, hy, hn⟩ := ints_get hI k _ e
  k_extra "h"
  have hg : ns.getD k 0 = y := by rw [List.getD_eq_getElem?_getD, hn]; rfl
  refine get_A N hl hi hk2 e ?_ hs
  rw [hy, ← hg]
  exact h t
end
def PU (p u : Int) : Prop := (p = 13 ∧ u = 4) ∨ (p = 19 ∧ u = 8) ∨ (p = 31 ∧ u = 6) ∨ (p = 37 ∧ u = 11)
noncomputable def metF (p u : Int) : Nat → List Int × List Int
  | 0 => ([], [])
  | i + 1 => if (metF p u i).1.any (· == 1 + (i : Int)) then metF p u i else ((metF p u i).1 ++ (List.range 6).map (fun j => ((1 + (i : Int)) * u ^ j).fmod p), (metF p u i).2 ++ [1 + (i : Int)])
theorem metF_len (p u : Int) : ∀ i, (metF p u i).1.length = 6 * (metF p u i).2.length
  | 0 => rfl
  | i + 1 => by
    have := metF_len p u i
    unfold metF
    split
    · exact this
    · simp only [List.length_append, List.length_map, List.length_range, List.length_singleton]
      omega
theorem metF_13 : ∀ i : Fin 12, (metF 13 4 i).1.any (· == 1 + ((i : Nat) : Int)) = true ∨ (metF 13 4 i).2.length ≤ 5 := by decide +kernel
theorem metF_19 : ∀ i : Fin 18, (metF 19 8 i).1.any (· == 1 + ((i : Nat) : Int)) = true ∨ (metF 19 8 i).2.length ≤ 5 := by decide +kernel
theorem metF_31 : ∀ i : Fin 30, (metF 31 6 i).1.any (· == 1 + ((i : Nat) : Int)) = true ∨ (metF 31 6 i).2.length ≤ 5 := by decide +kernel
theorem metF_37 : ∀ i : Fin 36, (metF 37 11 i).1.any (· == 1 + ((i : Nat) : Int)) = true ∨ (metF 37 11 i).2.length ≤ 5 := by decide +kernel
theorem metF_le {p u : Int} (h : PU p u) {i : Nat} (hi : (i : Int) < p - 1) (hn : ¬ (metF p u i).1.any (· == 1 + (i : Int)) = true) : (metF p u i).2.length ≤ 5 := by
  k_extra "g"
  rcases h with ⟨rfl, rfl⟩ | ⟨rfl, rfl⟩ | ⟨rfl, rfl⟩ | ⟨rfl, rfl⟩ <;> k_extra "h"
  · exact (metF_13 ⟨i, by omega⟩).resolve_left hn
  · exact (metF_19 ⟨i, by omega⟩).resolve_left hn
  · exact (metF_31 ⟨i, by omega⟩).resolve_left hn
  · exact (metF_37 ⟨i, by omega⟩).resolve_left hn
theorem metF_le6 {p u : Int} (h : PU p u) : ∀ {i : Nat}, (i : Int) ≤ p - 1 → (metF p u i).2.length ≤ 6
  | 0, _ => Nat.zero_le _
  | i + 1, hi => by
    unfold metF
    split
    · exact metF_le6 h (by omega)
    · have := metF_le h (i := i) (by omega) (by assumption)
      simp only [List.length_append, List.length_singleton]
      omega
section
variable {prog : Program} {w : World} {A : Around} {E : Value → Shared → Prop} {s : Shared} {h₀ : Heap} {L l D : Addr} {m : Str → Option Value} {news : Led} {g : Obj → Led}
theorem notin_A {vs : List Value} {ns : List Int} {n : Nat} {k : Int} {t : Tok} {b : Bool} {Q : Value → Shared → Prop} (N : News h₀ L s.heap news) (hl : (l, W.listOf vs.toArray n) ∈ news) (hI : IntsAre vs ns) (hb : ns.any (· == k) = b) (h : Q (.bool (!b)) s) : wpAny (model prog w) A (compareOp .NotIn (.int k t) (.ref l)) Q E s := by
  subst hb
  exact notin_list_ints ⟨_, (N _ hl).1, rfl, _, rfl⟩ hI h
theorem ext_A {vs ws : List Value} {n n2 : Nat} {b : Addr} {Q : Value → Shared → Prop} (F : Fr h₀ L s.heap m) (N : News h₀ L s.heap news) (hb : (b, W.listOf ws.toArray n2) ∈ news) (U : UpdF D (W.listOf vs.toArray n) news g) (h1 : vs.length ≤ 1000) (h2 : ws.length ≤ 1000) (h3 : ws.length ≠ 0)
    (h : ∀ h', Fr h₀ L h' m → News h₀ L h' (g (W.listOf (vs ++ ws).toArray (n + 1))) → Q .none { s with heap := h' }) : wpAny (model prog w) A (call (.builtin "list.extend") [.ref D, .ref b]) Q E s :=
  kl_extend F N hb (by simp) (by simpa using h3) (upd_of U) (by
    simp only [Bool.and_eq_true, not_and]
    intro _
    unfold Builtin.List.listTooLong
    rw [PySem.sizeLine_eq]
    simp
    omega) (by rw [PySem.sizeLine_eq]; simp; omega) (by rw [PySem.sizeLine_eq]; simp; omega) h
end
end
end
section
open NoL9 L_P L_R L_T2 L_L L_G
section
variable (prog : Program) (w : World) (loose : List Str) (mean : ExcName → Option Value) (mg mb : Str → Option Value)
theorem ints_cat {vs ws : List Value} {ns ms : List Int} (h : IntsAre vs ns) (h2 : IntsAre ws ms) : IntsAre (vs ++ ws) (ns ++ ms) := by
  induction h with
  | nil => exact h2
  | cons _ _ _ ih => exact .cons _ _ ih
theorem paired_cat {R : Int → Int → Prop} {vs ws ns ms : List Int} (h : PySem.Paired R vs ns) (h2 : PySem.Paired R ws ms) : PySem.Paired R (vs ++ ws) (ns ++ ms) := by
  induction h with
  | nil => exact h2
  | cons a _ ih => exact .cons a ih
noncomputable abbrev tupO (l : List Value) : Obj := { cls := .type "tuple", data := .seq l.toArray 0 }
structure DrawnTo (pp uu m1 m2 : Int) (pv sv : List Value) (ps qs : List Int) : Prop where
  pu : PU pp uu
  m1b : 1 ≤ m1 ∧ m1 < pp
  m2b : 1 ≤ m2 ∧ m2 < pp
  pI : IntsAre pv ps
  sI : IntsAre sv qs
  ql : qs.length = ps.length
  pR : PySem.Paired (fun y x => ∃ e : Nat, e < 6 ∧ y = (x * uu ^ e).fmod pp) ps (metF pp uu (pp - 1).toNat).2
  qR : ∀ y ∈ qs, 0 ≤ y ∧ y ≤ 2
def ConI (prog : Program) (w : World) (loose : List Str) (mean : ExcName → Option Value) (mg mb : Str → Option Value) (ss : Addr) (its : Array Value) (dp un : Nat) (f : Addr) (vs : List Value) (ro mu : Led) (R : Value → Led → Led → Prop) : Prop :=
  ∀ (gd : Option (List Code)) (cn : Str) (cs : Scope) (a : Addr) (ccd : Value) (cl : List (Str × Addr)) (outer : List Env) (A₀ : Around) (base h₀ : Heap) (L : Addr) (m : Str → Option Value) (s : Shared) (Q E : Value → Shared → Prop),
    h₀.IsList ss its → Below A₀ base outer h₀ → Fr h₀ L s.heap m → (kf.heap_1 w.params).In h₀ → News h₀ L s.heap (ro ++ mu) → Top topProg loose mean mg mb h₀ → cs.kind = .function →
    (∀ r mu' nw h' tk', Fr h₀ L h' m → News h₀ L h' (nw ++ (ro ++ mu')) → (∀ b o, s.heap.get? b = some o → b ∉ adr mu → h'.get? b = some o) → (∀ p ∈ nw, s.heap.get? p.1 = none) → R r mu' nw → Q r { s with heap := h', toks := tk' }) →
    codeAny (model prog w) (ktrTop dp un gd cn cs L a ccd cl outer) (.call (.ref f) ⟨vs, []⟩) (fun r s' => match r with | .ok (.ret v) => Q v s' | .ok _ => False | .error e => E e s') s
theorem ConI.con {prog : Program} {w : World} {loose : List Str} {mean : ExcName → Option Value} {mg mb : Str → Option Value} {ss : Addr} {its : Array Value} {dp un : Nat} {f : Addr} {vs : List Value} {ro mu : Led} {R : Value → Led → Led → Prop} (C : ConI prog w loose mean mg mb ss its dp un f vs ro mu R)
    {dp' un' : Nat} {big : Led} {gd : Option (List Code)} {cn : Str} {cs : Scope} {a : Addr} {ccd : Value} {cl : List (Str × Addr)} {outer : List Env} {A₀ : Around} {base h₀ : Heap} {L : Addr} {m : Str → Option Value} {s : Shared} {Q E : Value → Shared → Prop} (hd : dp' ≤ dp) (hu : un' ≤ un)
    (hs : h₀.IsList ss its) (B : Below A₀ base outer h₀) (F : Fr h₀ L s.heap m) (X : (kf.heap_1 w.params).In h₀) (N : News h₀ L s.heap (ro ++ mu)) (T : Top topProg loose mean mg mb h₀) (hk : cs.kind = .function)
    (ret : ∀ r mu' nw h' tk', Fr h₀ L h' m → News h₀ L h' (nw ++ (ro ++ mu')) → (∀ b o, s.heap.get? b = some o → b ∉ adr mu → h'.get? b = some o) → (∀ p ∈ nw, s.heap.get? p.1 = none) → R r mu' nw → Q r { s with heap := h', toks := tk' }) :
    codeAny (model prog w) (ktrTop dp' un' gd cn cs L a ccd cl outer) (.call (.ref f) ⟨vs, []⟩) (fun r s' => match r with | .ok (.ret v) => Q v s' | .ok _ => False | .error e => E e s') s :=
  codeAny_less (A := ktrTop dp un gd cn cs L a ccd cl outer) (C gd cn cs a ccd cl outer A₀ base h₀ L m s Q E hs B F X N T hk ret) hd hu
end
namespace drawn_con
noncomputable section
def Claim9 (prog : Program) (w : World) (loose : List Str) (mean : ExcName → Option Value) (mg mb : Str → Option Value) (z ss : Addr) (oz : Obj) (vs : List Value) (xs : List Int) : Prop := ∀ (hI : IntsAre vs xs) (hl : xs.length ≤ 63), ConI prog w loose mean mg mb ss vs.toArray 335 160 146 [.ref ss] [(z, oz)] []
      (fun r mu' nw => ∃ TU M SP ST pp uu m1 m2 pv sv ps qs pc sc t1 t2 t3 t4, r = .ref TU ∧ mu' = [] ∧ nw = [(TU, tupO [.int pp t1, .int uu t2, .ref M, .ref SP, .ref ST]), (ST, W.listOf (sv : List Value).toArray sc), (SP, W.listOf (pv : List Value).toArray pc), (M, W.listOf #[.int m1 t3, .int m2 t4] 0)] ∧
        @LT.lt Nat _ z M ∧ @LT.lt Nat _ M SP ∧ @LT.lt Nat _ SP ST ∧ @LT.lt Nat _ ST TU ∧ DrawnTo pp uu m1 m2 pv sv ps qs)
abbrev T9 : Type := ((((Program × World) × (List Str)) × (((ExcName → Option Value) × (Str → Option Value)) × (Str → Option Value))) × (((Addr × Addr) × Obj) × ((List Value) × (List Int))))
def U9 (t : T9) : Prop := Claim9 t.1.1.1.1 t.1.1.1.2 t.1.1.2 t.1.2.1.1 t.1.2.1.2 t.1.2.2 t.2.1.1.1 t.2.1.1.2 t.2.1.2 t.2.2.1 t.2.2.2
@[irreducible] def v9 : T9 := ch9 (by k_extra "NE") U9
theorem spec9 : U9 v9 → ∀ t, U9 t := by with_unfolding_all exact sp9 _ U9
def prog := v9.1.1.1.1
def w := v9.1.1.1.2
def loose := v9.1.1.2
def mean := v9.1.2.1.1
def mg := v9.1.2.1.2
def mb := v9.1.2.2
def z := v9.2.1.1.1
def ss := v9.2.1.1.2
def oz := v9.2.1.2
def vs := v9.2.2.1
def xs := v9.2.2.2
theorem core9 : Claim9 prog w loose mean mg mb z ss oz vs xs := by
  intro hI hl
  have hvl := hI.length
  unfold ConI
  intro gd cn cs a ccd cl outer A₀ base h₀ L m s Q E hIL B F X N T hk hret
  have N1 := N
  simp only [List.nil_append, List.append_nil, List.cons_append] at N1
  k_dflt k_extra "ENTERC"
  have hIL2 : g'.IsList ss vs.toArray := by
    k_extra "g"
    obtain ⟨o, e, r⟩ := hIL
    k_extra "h"
    refine ⟨o, kG' _ _ (F.keep _ _ e) (fun hm => ?_), r⟩
    k_extra "g"
    obtain ⟨q, hq, e2⟩ := List.mem_map.mp hm
    k_extra "h"
    have := (N q hq).2.2
    rw [e2, e] at this
    cases this
  k_extra "TOLC"
  rename_i o1 o2 o3 d1 d2 d3 D1 ws h1 F1 N9 hI1 hC1 hL1 lD1
  clear N1 hL1
  have hwl := hI1.length
  have LED : True := trivial
  k_extra "g"
  obtain ⟨J1, hJ1i, hJ1o⟩ := opq3 (fun (i : Nat) (ys : List Value) (led : Led) => led = [(D1, W.listOf ws.toArray 0), (L' + 1 + 1 + 1, o1), (L' + 1 + 1, o2), (L' + 1, o3), (z, oz)] ∧ IntsAre ys (((xs.take 9).map fun x => x.fmod 936).take i))
  k_extra "h"
  refine lc_list (vs := ws) (ax := D1) (c := 0) (Dr := fun d => d = s.drawn) J1 rfl (by decide) rfl rfl F1 (led0 := [(D1, W.listOf ws.toArray 0), (L' + 1 + 1 + 1, o1), (L' + 1 + 1, o2), (L' + 1, o3), (z, oz)]) N9 (.head _) (by omega) rfl (by refine hJ1i _ _ _ ?_; exact ⟨rfl, .nil⟩) ?turn ?fin
  case turn =>
    intro i v ys led I oI C oC D m₂ h tk dr E' hv hi hdr hyl hC hx F2 N2 off hne hlt hIl hS hJ
    replace hJ := hJ1o _ _ _ hJ
    refine and_2 hJ ?_; clear hJ; intro hled hys
    rw [hled] at N2 off hS
    (try rw [hled] at hIl)
    clear hled hS
    subst hdr
    k_lt hIl
    k_extra "g"
    obtain ⟨y, ty, rfl, hy⟩ := ints_get hI1 i v hv
    k_extra "h"
    have hy2 : ((xs.take 9).map fun x => x.fmod 936)[i]? = some (y.fmod 936) := by rw [List.getElem?_map, hy]; rfl
    (first | (refine opq_turn ?_; intro QT9 hT9) | (refine opq_V ?_; intro QT9 hT9))
    k_extra "STEPSD"
    rename News g' L' _ _ => NB
    exact exI_4 _ _ _ _ ⟨rfl, rfl, by assumption, NB, off, ⟨0, .head _⟩, by refine hJ1i _ _ _ ?_; exact ⟨rfl, by rw [take_next hy2]; exact ints_app hys⟩⟩
  case fin =>
    intro D h tk dr ys led hbl hdr hyl F2 N2 hne hS hJ
    replace hJ := hJ1o _ _ _ hJ
    refine and_2 hJ ?_; clear hJ; intro hled hys
    rw [hled] at N2 hne
    clear hled hJ1i hJ1o
    subst hdr
    k_lt hbl
    clear hS N9 F1
    rw [List.take_of_length_le (by rw [List.length_map]; omega)] at hys
    (try dsimp only)
    repeat' (first | ((fail_if_success (with_reducible show wpAny _ _ (exec (Stmt.Assign [PySem.Expr.Tuple _ _ _] _ _) _) _ _ _)); k_extra "STEP1"))
    rename_i l5 h9 l59 D6 h8 i1 n1 s1 e1 e2 e3 lD6 D5 ws5 h7 hI5 lD5 D4 dw h6 hI4 hC4 hL4 lD4 h5 F9 N9
    k_extra "g"
    obtain ⟨ds, hds, hds9, hdsb⟩ : ∃ ds, IntsAre dw ds ∧ ds.length = 9 ∧ ∀ y ∈ ds, 0 ≤ y ∧ y < 936 := by
      refine ⟨_, hI4, by simp, ?_⟩
      intro y hy
      rcases List.mem_append.mp (List.mem_of_mem_take hy) with hy | hy
      · obtain ⟨x, _, rfl⟩ := List.mem_map.mp hy
        exact ⟨Int.fmod_nonneg_of_pos _ (by decide), Int.fmod_lt_of_pos _ (by decide)⟩
      · have : y = 0 := by simpa using hy
        omega
    k_extra "h"
    clear hC4 hL4 hI5 lD5 i1 s1 e1 e2 e3 hI4 l59
    have hdl := hds.length
    have N10 : News g' L' h5 [(D4, W.listOf dw.toArray 0), (L' + 1 + 1 + 1, o1), (L' + 1 + 1, o2), (L' + 1, o3), (z, oz)] := by
      repeat (refine List.forall_mem_cons.mpr ⟨N9 _ (by repeat' (first | exact .head _ | apply List.Mem.tail)), ?_⟩)
      exact List.forall_mem_nil _
    clear N9
    have lD4' : @LT.lt Nat _ (L' + 1 + 1 + 1) D4 ∧ @LT.lt Nat _ z D4 := by omega
    clear lD4 lD6 hbl
    repeat' (first | ((fail_if_success (with_reducible show wpAny _ _ (subscriptTail (PySem.Expr.List _ _) _ (Value.ref _) (Value.int _ _)) _ _ _)); k_extra "STEP1"))
    rename_i T1 h14 l1T T2 h13 l2T T3 h12 l3T T4 h11 l4T l6 h10 F6 N6 l6T tk6
    have hd0 : (0 : Int) ≤ (1 + ds.getD (Int.toNat 0) 0).fmod 4 ∧ (1 + ds.getD (Int.toNat 0) 0).fmod 4 < 4 := ⟨Int.fmod_nonneg_of_pos _ (by decide), Int.fmod_lt_of_pos _ (by decide)⟩
    generalize (1 + ds.getD (Int.toNat 0) 0).fmod 4 = r at *
    have hTT : ∃ T pp uu ta tb, ([.ref T1, .ref T2, .ref T3, .ref T4] : List Value)[r.toNat]? = some (.ref T) ∧ News g' L' h10 [(T, tup2 pp uu ta tb)] ∧ PU pp uu ∧ @LT.lt Nat _ T l6 ∧ @LT.lt Nat _ D4 T := by
      have : r = 0 ∨ r = 1 ∨ r = 2 ∨ r = 3 := by omega
      k_extra "g"
      rcases this with rfl | rfl | rfl | rfl <;> k_extra "h"
      · refine ⟨T1, 13, 4, _, _, rfl, List.forall_mem_cons.mpr ⟨N6 _ (mem_ix 4 rfl), List.forall_mem_nil _⟩, .inl ⟨rfl, rfl⟩, by omega, by omega⟩
      · refine ⟨T2, 19, 8, _, _, rfl, List.forall_mem_cons.mpr ⟨N6 _ (mem_ix 3 rfl), List.forall_mem_nil _⟩, .inr (.inl ⟨rfl, rfl⟩), by omega, by omega⟩
      · refine ⟨T3, 31, 6, _, _, rfl, List.forall_mem_cons.mpr ⟨N6 _ (mem_ix 2 rfl), List.forall_mem_nil _⟩, .inr (.inr (.inl ⟨rfl, rfl⟩)), by omega, by omega⟩
      · refine ⟨T4, 37, 11, _, _, rfl, List.forall_mem_cons.mpr ⟨N6 _ (.tail _ (.head _)), List.forall_mem_nil _⟩, .inr (.inr (.inr ⟨rfl, rfl⟩)), by omega, by omega⟩
    refine ex_5 hTT ?_; clear hTT; intro T pp uu ta tb hTT
    refine and_5 hTT ?_; clear hTT; intro hTv hTm hPU hT6 hTD
    k_dflt (refine' get_A (l := l6) (vs := [.ref T1, .ref T2, .ref T3, .ref T4]) (k := r.toNat) (v := .ref T) N6 (.head _) (Int.toNat_of_nonneg hd0.1).symm (by omega) hTv ?_ (by with_unfolding_all rfl))
    have N11 : News g' L' h10 [(T, tup2 pp uu ta tb), (D4, W.listOf dw.toArray 0), (L' + 1 + 1 + 1, o1), (L' + 1 + 1, o2), (L' + 1, o3), (z, oz)] := List.forall_mem_cons.mpr ⟨hTm _ (.head _), fun p hp => N6 p (mem_dr 5 hp)⟩
    clear hTm hTv N6 l1T l2T l3T l4T l6T hT6
    have hppb : 12 < pp ∧ pp < 38 ∧ 3 < uu ∧ uu < 12 := by
      rcases hPU with ⟨rfl, rfl⟩ | ⟨rfl, rfl⟩ | ⟨rfl, rfl⟩ | ⟨rfl, rfl⟩ <;> decide
    repeat' (first | ((fail_if_success (with_reducible show wpAny _ _ (pyIter _) (OwitAt _ _ _ _ _ _ _ _) _ _)); k_extra "STEP1"))
    rename_i h20 h21 oP dP h22 oU dU t20 t21 M h23 lM h24 SP h25 lSP h26 ST h27 lST h28 ME h29 lME h30 R t22 h31 tk24 F12 N12 lR
    generalize hoM : W.listOf #[.int _ _, .int _ _] _ = oM at N12
    k_extra "g"
    obtain ⟨m1, m2, tm1, tm2, hoM2, hm1, hm2⟩ : ∃ m1 m2 tm1 tm2, oM = W.listOf #[.int m1 tm1, .int m2 tm2] 0 ∧ (1 ≤ m1 ∧ m1 < pp) ∧ (1 ≤ m2 ∧ m2 < pp) := by
      subst hoM
      refine ⟨_, _, _, _, rfl, ?_, ?_⟩
      · have h0 := Int.fmod_nonneg_of_pos (b := pp - 1) (5 + ds.getD (Int.toNat 1) 0) (by omega)
        have h1 := Int.fmod_lt_of_pos (b := pp - 1) (5 + ds.getD (Int.toNat 1) 0) (by omega)
        omega
      · have h0 := Int.fmod_nonneg_of_pos (b := pp - 1) (9 + ds.getD (Int.toNat 2) 0) (by omega)
        have h1 := Int.fmod_lt_of_pos (b := pp - 1) (9 + ds.getD (Int.toNat 2) 0) (by omega)
        omega
    clear hoM
    have N13 : News g' L' h31 [(R, _), (ME, _), (ST, _), (SP, _), (M, oM), (D4, W.listOf dw.toArray 0), (L' + 1 + 1 + 1, oU), (L' + 1 + 1, oP), (L' + 1, o3), (z, oz)] := List.forall_mem_cons.mpr ⟨N12 _ (.head _), List.forall_mem_cons.mpr ⟨N12 _ (.tail _ (.head _)), List.forall_mem_cons.mpr ⟨N12 _ (mem_ix 2 rfl), List.forall_mem_cons.mpr ⟨N12 _ (mem_ix 3 rfl), List.forall_mem_cons.mpr ⟨N12 _ (mem_ix 4 rfl), fun p hp => N12 p (mem_dr 6 hp)⟩⟩⟩⟩⟩
    obtain ⟨J2, hJ2di, hJ2do⟩ := opq3 (fun (i : Nat) (m : Str → Option Value) (led : Led) => ∃ rO mv mc pv pc sv sc oX vx ps qs, m (Str.ofString "draw") = some (.ref D4) ∧ m (Str.ofString "many") = some (.ref M) ∧ m (Str.ofString "speakers") = some (.ref SP) ∧ m (Str.ofString "styles") = some (.ref ST) ∧ m (Str.ofString "met") = some (.ref ME) ∧
      led = [(R, rO), (ME, W.listOf (mv : List Value).toArray mc), (ST, W.listOf (sv : List Value).toArray sc), (SP, W.listOf (pv : List Value).toArray pc), (M, oM), (D4, W.listOf dw.toArray 0), (L' + 1 + 1 + 1, oU), (L' + 1 + 1, oP), (L' + 1, oX), (z, oz)] ∧ Obj.data oX = Data.cell vx ∧
      IntsAre mv (metF pp uu i).1 ∧ IntsAre pv ps ∧ IntsAre sv qs ∧ qs.length = ps.length ∧ PySem.Paired (fun y x => ∃ e : Nat, e < 6 ∧ y = (x * uu ^ e).fmod pp) ps (metF pp uu i).2 ∧ ∀ y ∈ qs, 0 ≤ y ∧ y ≤ 2)
    k_extra "h"
    refine owit_range (n := (pp - 1).toNat) (R := R) (Dr := fun d => d = s.drawn) J2 rfl F12 N13 (.head _) (by omega) (by omega) (by omega) rfl ?hJ ?turn ?fin
    case hJ =>
      refine hJ2di _ _ _ ?_
      exact exI_11 _ [] 0 [] 0 [] 0 _ _ [] [] ⟨rfl, rfl, rfl, rfl, rfl, rfl, d3, .nil, .nil, .nil, rfl, .nil, fun _ h => nomatch h⟩
    case turn =>
      intro i tx h tk dr m' led I it hi hdr F2 N2 off hIl hJ
      replace hJ := hJ2do _ _ _ hJ
      refine ex_11 hJ ?_; clear hJ; intro rO mv mc pv pc sv sc oX vx ps qs hJ
      refine and_13 hJ ?_; clear hJ; intro e1 e2 e3 e4 e5 hled hoX hmv hpv hsv hqp hps hq2
      rw [hled] at N2 off
      (try rw [hled] at hIl)
      clear hled
      subst hdr
      have F3 := fr_know5 F2 e1 e2 e3 e4 e5
      clear F2 e1 e2 e3 e4 e5 F12 N12 N13
      k_lt hIl
      (try dsimp only)
      have hmvl := hmv.length
      have hpvl := hpv.length
      have hsvl := hsv.length
      have hpsl := hps.length
      have hml := metF_len pp uu i
      have hm6 := metF_le6 hPU (i := i) (by omega)
      (first | (refine opq_turn ?_; intro QT9 hT9) | (refine opq_V ?_; intro QT9 hT9))
      k_extra "TOLC"
      · rename_i h40 oN F40 N40 dN hany
        refine exI_5 _ _ _ _ _ ⟨rfl, rfl, F40, N40, off, trivial, ?_⟩
        refine hJ2di _ _ _ ?_
        refine exI_11 _ _ _ _ _ _ _ _ _ _ _ ⟨rfl, rfl, rfl, rfl, rfl, rfl, dN, ?_, hpv, hsv, hqp, ?_, hq2⟩
        · show IntsAre mv (metF pp uu (i + 1)).1
          unfold metF
          rw [if_pos hany]
          exact hmv
        · show PySem.Paired _ ps (metF pp uu (i + 1)).2
          unfold metF
          rw [if_pos hany]
          exact hps
      · rename_i h40 oN dN _ _ _ hany t40 k40 h42 R2 t43 t44 h43 tk43 F40 N40 lR2
        have hm5 := metF_le hPU (i := i) (by omega) (by rw [hany]; decide)
        have hpw : ∀ j : Nat, j < 6 → (0 : Int) ≤ uu ^ j ∧ uu ^ j ≤ 161051 := by
          intro j hj
          exact pow_bd hppb.2.2 hj
        k_extra "g"
        obtain ⟨J3, hJ3di, hJ3do⟩ := opq3 (fun (j : Nat) (ys : List Value) (led : Led) => led = [(R2, rngObj 0 6 t43 (k40 + 1) t44), (I, it), (R, rO), (ME, W.listOf mv.toArray mc), (ST, W.listOf sv.toArray sc), (SP, W.listOf pv.toArray pc), (M, oM), (D4, W.listOf dw.toArray 0), (L' + 1 + 1 + 1, oU), (L' + 1 + 1, oP), (L' + 1, oN), (z, oz)] ∧ IntsAre ys (((List.range 6).map (fun j => ((1 + (i : Int)) * uu ^ j).fmod pp)).take j))
        k_extra "h"
        refine lc_rangeA (n := 6) (R := R2) (Dr := fun d => d = s.drawn) J3 ?hh ?hcell ?hkind ?hx F40 N40 (.head _) ?hab ?hn ?ha ?hD ?hJ2 ?turn2 ?fin2
        case hh => rfl
        case hcell => decide
        case hkind => rfl
        case hx => rfl
        case hab => decide
        case hn => omega
        case ha => omega
        case hD => rfl
        case hJ2 => refine hJ3di _ _ _ ?_; exact ⟨rfl, .nil⟩
        case turn2 =>
          intro j tj ys led I2 oI C oC D m₂ h tk dr E' hj hdr hyl hC hx F2 N2 off2 hne hlt hIl2 hJ
          replace hJ := hJ3do _ _ _ hJ
          refine and_2 hJ ?_; clear hJ; intro hled hys
          rw [hled] at N2 off2
          (try rw [hled] at hIl2)
          clear hled
          subst hdr
          k_lt hIl2
          have hpwj := hpw j hj
          have hyj : ((List.range 6).map (fun j => ((1 + (i : Int)) * uu ^ j).fmod pp))[j]? = some (((1 + (i : Int)) * uu ^ j).fmod pp) := by
            rw [List.getElem?_map, List.getElem?_range hj]; rfl
          have hj0 : (0 : Int) + (j : Int) = (j : Int) := Int.zero_add _
          rw [hj0] at hx
          (first | (refine opq_turn ?_; intro QT9 hT9) | (refine opq_V ?_; intro QT9 hT9))
          k_extra "STEPSD"
          rename News g' L' _ _ => NB
          exact exI_4 _ _ _ _ ⟨rfl, rfl, by assumption, NB, off2, trivial, by refine hJ3di _ _ _ ?_; exact ⟨rfl, by rw [take_next hyj]; exact ints_app hys⟩⟩
        case fin2 =>
          intro D oCa oC m₂ h tk dr ys led hbl hdr hyl hC F2 N2 o1 o2 o3 hJ
          replace hJ := hJ3do _ _ _ hJ
          refine and_2 hJ ?_; clear hJ; intro hled hys
          rw [hled] at N2 o1 o2
          clear hled
          subst hdr
          k_lt hbl
          rw [List.take_of_length_le (by simp)] at hys
          have hyl6 := hys.length
          k_extra "STEPSD"
          rename News g' L' _ _ => NB
          refine lgone_intro hC (by assumption) NB (by repeat' (first | exact .head _ | apply List.Mem.tail)) (led := (D, LCg.lst ys) :: _) (fun p hp => by
            k_extra "g"
            rcases List.mem_cons.mp hp with rfl | hp <;> k_extra "h"
            · exact .head _
            · exact mem_dr 2 hp) ?ne2 ?go2
          case ne2 =>
            show AllNe oCa _
            exact ⟨fun e => o3 e.symm, o2⟩
          case go2 =>
            intro h' F' N'
            k_extra "STEPSD"
            rename Fr g' L' _ _ => FB
            rename News g' L' _ _ => NB
            refine exI_5 _ _ _ _ _ ⟨rfl, rfl, FB, fun p hp => NB p (mem_dr 3 hp), off, trivial, ?_⟩
            refine hJ2di _ _ _ ?_
            refine exI_11 _ _ _ _ _ _ _ _ _ _ _ ⟨rfl, rfl, rfl, rfl, rfl, rfl, dN, ?_, ints_app hpv, ints_app hsv, by simp [hqp], ?_, ?_⟩
            · show IntsAre _ (metF pp uu (i + 1)).1
              unfold metF
              rw [if_neg (by rw [hany]; decide)]
              exact ints_cat hmv hys
            · show PySem.Paired _ _ (metF pp uu (i + 1)).2
              unfold metF
              rw [if_neg (by rw [hany]; decide)]
              refine paired_cat hps (.cons ?_ .nil)
              generalize hkk : (([1, 4, 2, 0, 3, 5] : List Int).getD (pv.length : Int).toNat 0 + ds.getD (3 + (pv.length : Int)).toNat 0) = kk
              have h0 : 0 ≤ kk.fmod 6 := Int.fmod_nonneg_of_pos _ (by decide)
              have h1 : kk.fmod 6 < 6 := Int.fmod_lt_of_pos _ (by decide)
              refine ⟨(kk.fmod 6).toNat, by omega, ?_⟩
              rw [List.getD_eq_getElem?_getD, List.getElem?_map, List.getElem?_range (show (kk.fmod 6).toNat < 6 by omega)]
              rfl
            · intro y hy
              k_extra "g"
              rcases List.mem_append.mp hy with hy | hy <;> k_extra "h"
              · exact hq2 y hy
              · rw [List.mem_singleton.mp hy]
                have h0 := Int.fmod_nonneg_of_pos (b := 3) ((pv.length : Int) + (ds.getD (3 + (pv.length : Int)).toNat 0).fdiv 6) (by decide)
                have h1 := Int.fmod_lt_of_pos (b := 3) ((pv.length : Int) + (ds.getD (3 + (pv.length : Int)).toNat 0).fdiv 6) (by decide)
                omega
    case fin =>
      intro h tk dr m' led hdr F2 N2 hJ
      replace hJ := hJ2do _ _ _ hJ
      refine ex_11 hJ ?_; clear hJ; intro rO mv mc pv pc sv sc oX vx ps qs hJ
      refine and_13 hJ ?_; clear hJ; intro e1 e2 e3 e4 e5 hled hoX hmv hpv hsv hqp hps hq2
      rw [hled] at N2
      clear hled
      subst hdr
      have F3 := fr_know5 F2 e1 e2 e3 e4 e5
      clear F2 e1 e2 e3 e4 e5 F12 N12 N13
      (try dsimp only)
      k_extra "STEPSD"
      rename News g' L' _ _ => NE
      rename Fr g' L' _ _ => FE
      rename (@LT.lt Nat _ R _ ∧ _) => lE
      subst hoM2
      (try dsimp only)
      k_extra "LV"
      rename Addr => TU
      refine end_pick [] [(TU, tupO [.int pp ta, .int uu tb, .ref M, .ref SP, .ref ST]), (ST, W.listOf sv.toArray sc), (SP, W.listOf pv.toArray pc), (M, W.listOf #[.int m1 tm1, .int m2 tm2] 0)] (exI_18 _ M SP ST pp uu m1 m2 pv sv ps qs _ _ _ _ _ _ ⟨rfl, rfl, rfl, by omega, by omega, by omega, by omega, hPU, hm1, hm2, hpv, hsv, hqp, hps, hq2⟩) ?_ (List.forall_mem_nil _) ?_ ?_
      · k_extra "SUBS"
      · k_extra "SUBS"
      · k_extra "NES"
end
end drawn_con
section
variable (prog : Program) (w : World) (loose : List Str) (mean : ExcName → Option Value) (mg mb : Str → Option Value)
theorem drawn_con (z ss : Addr) (oz : Obj) (vs : List Value) (xs : List Int) (hI : IntsAre vs xs) (hl : xs.length ≤ 63) :
    ConI prog w loose mean mg mb ss vs.toArray 335 160 146 [.ref ss] [(z, oz)] []
      (fun r mu' nw => ∃ TU M SP ST pp uu m1 m2 pv sv ps qs pc sc t1 t2 t3 t4, r = .ref TU ∧ mu' = [] ∧ nw = [(TU, tupO [.int pp t1, .int uu t2, .ref M, .ref SP, .ref ST]), (ST, W.listOf (sv : List Value).toArray sc), (SP, W.listOf (pv : List Value).toArray pc), (M, W.listOf #[.int m1 t3, .int m2 t4] 0)] ∧
        @LT.lt Nat _ z M ∧ @LT.lt Nat _ M SP ∧ @LT.lt Nat _ SP ST ∧ @LT.lt Nat _ ST TU ∧ DrawnTo pp uu m1 m2 pv sv ps qs) := ((drawn_con.spec9 drawn_con.core9 ((((prog, w), loose), ((mean, mg), mb)), (((z, ss), oz), (vs, xs))) : drawn_con.Claim9 prog w loose mean mg mb z ss oz vs xs)) hI hl
end
end
section
section
variable (prog : Program) (w : World) (loose : List Str) (mean : ExcName → Option Value) (mg mb : Str → Option Value)
noncomputable def tA (T : List (Nat × Nat)) (v : Nat) : Nat × Nat := T.getD v (0, 0)
noncomputable def sumG (p : Nat) (x0 : List Nat) (T : List (Nat × Nat)) (m : Nat) : Nat := ((List.range x0.length).map fun i => (tA T (m * x0.getD i 0 % p)).2).sum % 6
structure Good (p u : Nat) (x0 : List Nat) (T : List (Nat × Nat)) : Prop where
  pb : 12 < p ∧ p < 38 ∧ 3 < u ∧ u < 12
  nb : 2 ≤ x0.length ∧ x0.length ≤ 6
  f0 : ∀ k, k < x0.length → 1 ≤ x0.getD k 0 ∧ x0.getD k 0 < p ∧ tA T (x0.getD k 0) = (k, 0)
  f1 : ∀ v, v < p → 1 ≤ v → (tA T v).1 < x0.length ∧ (tA T v).2 < 6 ∧ x0.getD (tA T v).1 0 * u ^ (tA T v).2 % p = v
  f2 : ∀ v, v < p → 1 ≤ v → v * u % p ≠ 0 ∧ tA T (v * u % p) = ((tA T v).1, ((tA T v).2 + 1) % 6)
  nz : ∀ a, a < p → ∀ b, b < p → 1 ≤ a → 1 ≤ b → a * b % p ≠ 0
  f3 : ∀ m, m < p → 1 ≤ m → ((List.range x0.length).map fun i => (tA T (m * x0.getD i 0 % p)).1).Perm (List.range x0.length)
  f4 : ∀ m, m < p → 1 ≤ m → u ^ sumG p x0 T m % p = m ^ x0.length % p
  f5 : ∀ m, m < p → 1 ≤ m → ((List.range (p - 1)).any fun i => (1 + i) ^ 2 % p == m) = decide (sumG p x0 T m % 2 = 0)
  f6 : ∀ m, m < p → 1 ≤ m → ((List.range (p - 1)).any fun i => (1 + i) ^ 3 % p == m) = decide (sumG p x0 T m % 3 = 0)
  f7 : ∀ m, m < p → 1 ≤ m → ((List.range (p - 1)).any fun i => (1 + i) ^ 6 % p == m) = decide (sumG p x0 T m = 0)
  f8 : u ^ 3 % p = p - 1
noncomputable def x13 : List Nat := [1, 2]
noncomputable def t13 : List (Nat × Nat) := [(0, 0), (0, 0), (1, 0), (0, 2), (0, 1), (1, 4), (1, 2), (1, 5), (1, 1), (0, 4), (0, 5), (1, 3), (0, 3)]
theorem good13 : Good 13 4 x13 t13 := ⟨by decide, by decide, by decide +kernel, by decide +kernel, by decide +kernel, by decide +kernel, by decide +kernel, by decide +kernel, by decide +kernel, by decide +kernel, by decide +kernel, by decide +kernel⟩
theorem first13 : (metF 13 4 (13 - 1 : Int).toNat).2 = x13.map fun (x : Nat) => (x : Int) := by decide +kernel
noncomputable def x19 : List Nat := [1, 2, 4]
noncomputable def t19 : List (Nat × Nat) := [(0, 0), (0, 0), (1, 0), (1, 4), (2, 0), (1, 5), (2, 4), (0, 2), (0, 1), (2, 2), (2, 5), (0, 4), (0, 5), (2, 1), (1, 2), (2, 3), (1, 1), (1, 3), (0, 3)]
theorem good19 : Good 19 8 x19 t19 := ⟨by decide, by decide, by decide +kernel, by decide +kernel, by decide +kernel, by decide +kernel, by decide +kernel, by decide +kernel, by decide +kernel, by decide +kernel, by decide +kernel, by decide +kernel⟩
theorem first19 : (metF 19 8 (19 - 1 : Int).toNat).2 = x19.map fun (x : Nat) => (x : Int) := by decide +kernel
noncomputable def x31 : List Nat := [1, 2, 3, 4, 8]
noncomputable def t31 : List (Nat × Nat) := [(0, 0), (0, 0), (1, 0), (2, 0), (3, 0), (0, 2), (0, 1), (3, 4), (4, 0), (4, 2), (1, 2), (3, 5), (1, 1), (2, 4), (4, 4), (2, 2), (2, 5), (4, 1), (2, 1), (1, 4), (3, 2), (1, 5), (4, 5), (4, 3), (3, 1), (0, 4), (0, 5), (3, 3), (2, 3), (1, 3), (0, 3)]
theorem good31 : Good 31 6 x31 t31 := ⟨by decide, by decide, by decide +kernel, by decide +kernel, by decide +kernel, by decide +kernel, by decide +kernel, by decide +kernel, by decide +kernel, by decide +kernel, by decide +kernel, by decide +kernel⟩
theorem first31 : (metF 31 6 (31 - 1 : Int).toNat).2 = x31.map fun (x : Nat) => (x : Int) := by decide +kernel
noncomputable def x37 : List Nat := [1, 2, 3, 5, 6, 9]
noncomputable def t37 : List (Nat × Nat) := [(0, 0), (0, 0), (1, 0), (2, 0), (2, 4), (3, 0), (4, 0), (2, 5), (4, 4), (5, 0), (0, 2), (0, 1), (5, 4), (3, 2), (4, 5), (1, 4), (5, 2), (1, 5), (3, 1), (3, 4), (1, 2), (5, 5), (1, 1), (4, 2), (3, 5), (5, 1), (0, 4), (0, 5), (5, 3), (4, 1), (2, 2), (4, 3), (3, 3), (2, 1), (2, 3), (1, 3), (0, 3)]
theorem good37 : Good 37 11 x37 t37 := ⟨by decide, by decide, by decide +kernel, by decide +kernel, by decide +kernel, by decide +kernel, by decide +kernel, by decide +kernel, by decide +kernel, by decide +kernel, by decide +kernel, by decide +kernel⟩
theorem first37 : (metF 37 11 (37 - 1 : Int).toNat).2 = x37.map fun (x : Nat) => (x : Int) := by decide +kernel
end
end
section
theorem L_T_MB1.ln9_T_MB1 : True := trivial
open L_T_MB1
section
variable (prog : Program) (w : World) (loose : List Str) (mean : ExcName → Option Value) (mg mb : Str → Option Value)
theorem kw9_MB1_1 : True := by
  (k_with "lT_MB1" => fail_if_success (fail_if_success (have h9 := ln9_T_MB1)))
  (k_with "omega" => (k_extra "lT_MB1"; first | (with_reducible assumption) | lia | omega +splitDisjunctions))
  trivial
section
variable {p u : Nat} {x0 : List Nat} {T : List (Nat × Nat)}
theorem Good.inj (G : Good p u x0 T) {v v' : Nat} (hv : v < p ∧ 1 ≤ v) (hv' : v' < p ∧ 1 ≤ v') (h : tA T v = tA T v') : v = v' := by
  have h1 := (G.f1 v hv.1 hv.2).2.2
  have h2 := (G.f1 v' hv'.1 hv'.2).2.2
  rw [h] at h1
  exact h1.symm.trans h2
theorem mod_step (a b p : Nat) : a % p * b % p = a * b % p := by rw [Nat.mul_mod, Nat.mod_mod, ← Nat.mul_mod]
theorem Good.pow (G : Good p u x0 T) {v : Nat} (hv : v < p ∧ 1 ≤ v) : ∀ j, (v * u ^ j % p < p ∧ 1 ≤ v * u ^ j % p) ∧ tA T (v * u ^ j % p) = ((tA T v).1, ((tA T v).2 + j) % 6)
  | 0 => by
    have h1 := G.f1 v hv.1 hv.2
    rw [Nat.pow_zero, Nat.mul_one, Nat.mod_eq_of_lt hv.1]
    refine ⟨hv, ?_⟩
    rw [Nat.add_zero, Nat.mod_eq_of_lt h1.2.1]
  | j + 1 => by
    k_extra "g"
    obtain ⟨h1, h2⟩ := G.pow hv j
    k_extra "h"
    have h3 := G.f2 _ h1.1 h1.2
    rw [Nat.pow_succ, ← Nat.mul_assoc, ← mod_step]
    refine ⟨⟨Nat.mod_lt _ (by have := G.pb; omega), Nat.pos_of_ne_zero h3.1⟩, ?_⟩
    rw [h3.2, h2]
    refine Prod.ext rfl ?_
    show ((((tA T v).2 + j) % 6) + 1) % 6 = _
    omega
noncomputable def kap (p : Nat) (x0 : List Nat) (T : List (Nat × Nat)) (m i : Nat) : Nat := (tA T (m * x0.getD i 0 % p)).1
noncomputable def gam (p : Nat) (x0 : List Nat) (T : List (Nat × Nat)) (m i : Nat) : Nat := (tA T (m * x0.getD i 0 % p)).2
theorem Good.mul (G : Good p u x0 T) {m v : Nat} (hm : m < p ∧ 1 ≤ m) (hv : v < p ∧ 1 ≤ v) :
    (m * v % p < p ∧ 1 ≤ m * v % p) ∧ tA T (m * v % p) = (kap p x0 T m (tA T v).1, (gam p x0 T m (tA T v).1 + (tA T v).2) % 6) := by
  have hp0 : 0 < p := by have := G.pb; omega
  k_extra "g"
  obtain ⟨h1, h2, h3⟩ := G.f1 v hv.1 hv.2
  k_extra "h"
  have h0 := G.f0 _ h1
  have hmx : m * x0.getD (tA T v).1 0 % p < p ∧ 1 ≤ m * x0.getD (tA T v).1 0 % p := ⟨Nat.mod_lt _ hp0, Nat.pos_of_ne_zero (G.nz _ hm.1 _ h0.2.1 hm.2 h0.1)⟩
  have hg := G.pow hmx (tA T v).2
  have e : m * v % p = m * x0.getD (tA T v).1 0 % p * u ^ (tA T v).2 % p := by
    rw [mod_step, Nat.mul_assoc]
    conv => lhs; rw [← h3]
    rw [Nat.mul_mod, Nat.mod_mod, ← Nat.mul_mod]
  rw [e]
  exact hg
theorem Good.red (G : Good p u x0 T) {M : Nat} (hM : M % p ≠ 0) {v : Nat} (hv : v < p ∧ 1 ≤ v) :
    (M * v % p < p ∧ 1 ≤ M * v % p) ∧ tA T (M * v % p) = (kap p x0 T (M % p) (tA T v).1, (gam p x0 T (M % p) (tA T v).1 + (tA T v).2) % 6) := by
  have hp0 : 0 < p := by have := G.pb; omega
  rw [← mod_step]
  exact G.mul ⟨Nat.mod_lt _ hp0, Nat.pos_of_ne_zero hM⟩ hv
structure Spk (p u : Nat) (x0 : List Nat) (T : List (Nat × Nat)) (sp : List Nat) : Prop where
  g : Good p u x0 T
  len : sp.length = x0.length
  rng : ∀ k, k < x0.length → sp.getD k 0 < p ∧ 1 ≤ sp.getD k 0
  cls : ∀ k, k < x0.length → (tA T (sp.getD k 0)).1 = k
variable {sp : List Nat}
noncomputable def eX (T : List (Nat × Nat)) (sp : List Nat) (k : Nat) : Nat := (tA T (sp.getD k 0)).2
theorem Spk.at_ (S : Spk p u x0 T sp) {k j V : Nat} (hk : k < x0.length) (h : sp.getD k 0 * u ^ j % p = V) : (V < p ∧ 1 ≤ V) ∧ tA T V = (k, (eX T sp k + j) % 6) := by
  subst h
  have := S.g.pow (S.rng k hk) j
  rw [S.cls k hk] at this
  exact this
theorem Spk.cover (S : Spk p u x0 T sp) {v : Nat} (hv : v < p ∧ 1 ≤ v) : ∃ k j, k < x0.length ∧ j < 6 ∧ sp.getD k 0 * u ^ j % p = v := by
  have h1 := S.g.f1 v hv.1 hv.2
  refine ⟨(tA T v).1, ((tA T v).2 + 6 - eX T sp (tA T v).1) % 6, h1.1, Nat.mod_lt _ (by decide), ?_⟩
  have hE : eX T sp (tA T v).1 < 6 := (S.g.f1 _ (S.rng _ h1.1).1 (S.rng _ h1.1).2).2.1
  have h2 := S.at_ h1.1 (j := ((tA T v).2 + 6 - eX T sp (tA T v).1) % 6) rfl
  refine S.g.inj h2.1 hv (h2.2.trans (Prod.ext rfl ?_))
  show (_ + _ % 6) % 6 = _
  omega
theorem Spk.act (S : Spk p u x0 T sp) {M i k j : Nat} (hM : M % p ≠ 0) (hi : i < x0.length) (hk : k < x0.length) (h : sp.getD k 0 * u ^ j % p = M * sp.getD i 0 % p) :
    k = kap p x0 T (M % p) i ∧ (eX T sp k + j) % 6 = (gam p x0 T (M % p) i + eX T sp i) % 6 := by
  have h1 := (S.at_ hk h).2
  have h2 := (S.g.red hM (S.rng i hi)).2
  rw [S.cls i hi] at h2
  have e := h1.symm.trans h2
  exact ⟨congrArg Prod.fst e, congrArg Prod.snd e⟩
theorem Spk.uniq (S : Spk p u x0 T sp) {k j k' j' : Nat} (hk : k < x0.length) (hk' : k' < x0.length) (hj : j < 6) (hj' : j' < 6) (h : sp.getD k 0 * u ^ j % p = sp.getD k' 0 * u ^ j' % p) : k = k' ∧ j = j' := by
  have h1 := (S.at_ hk h).2
  have h2 := (S.at_ hk' (j := j') rfl).2
  have e := h1.symm.trans h2
  have e1 : k = k' := congrArg Prod.fst e
  subst e1
  have e2 : (eX T sp k + j) % 6 = (eX T sp k + j') % 6 := congrArg Prod.snd e
  exact ⟨rfl, by omega⟩
theorem sum_perm {f : Nat → Nat} {l l' : List Nat} (h : l.Perm l') : (l.map f).sum = (l'.map f).sum := by
  induction h with
  | nil => rfl
  | cons x _ ih => simp [ih]
  | swap x y l => simp only [List.map_cons, List.sum_cons]; omega
  | trans _ _ ih1 ih2 => exact ih1.trans ih2
theorem sum_cong {n : Nat} {a b c d : Nat → Nat} (h : ∀ i, i < n → (a i + b i) % 6 = (c i + d i) % 6) : (((List.range n).map a).sum + ((List.range n).map b).sum) % 6 = (((List.range n).map c).sum + ((List.range n).map d).sum) % 6 := by
  induction n with
  | zero => rfl
  | succ n ih =>
    have h1 := ih fun i hi => h i (by omega)
    have h2 := h n (by omega)
    simp only [List.range_succ, List.map_append, List.map_cons, List.map_nil, List.sum_append, List.sum_cons, List.sum_nil]
    omega
theorem Spk.total (S : Spk p u x0 T sp) {M : Nat} (hM : M % p ≠ 0) {k j : Nat → Nat} (hk : ∀ i, i < x0.length → k i < x0.length) (h : ∀ i, i < x0.length → sp.getD (k i) 0 * u ^ j i % p = M * sp.getD i 0 % p) :
    ((List.range x0.length).map j).sum % 6 = sumG p x0 T (M % p) := by
  have hp0 : 0 < p := by have := S.g.pb; omega
  have ha := fun i hi => S.act hM hi (hk i hi) (h i hi)
  have hs := sum_cong (n := x0.length) (a := fun i => eX T sp (k i)) (b := j) (c := fun i => gam p x0 T (M % p) i) (d := fun i => eX T sp i) fun i hi => (ha i hi).2
  have hm : ((List.range x0.length).map k).Perm (List.range x0.length) := by
    have e : (List.range x0.length).map k = (List.range x0.length).map fun i => kap p x0 T (M % p) i := List.map_congr_left fun i hi => (ha i (List.mem_range.mp hi)).1
    rw [e]
    exact S.g.f3 _ (Nat.mod_lt _ hp0) (Nat.pos_of_ne_zero hM)
  have e2 : ((List.range x0.length).map fun i => eX T sp (k i)).sum = ((List.range x0.length).map fun i => eX T sp i).sum := by
    have := sum_perm (f := eX T sp) hm
    rw [List.map_map] at this
    exact this
  have e3 : ((List.range x0.length).map fun i => gam p x0 T (M % p) i).sum % 6 = sumG p x0 T (M % p) := rfl
  omega
theorem Spk.perm (S : Spk p u x0 T sp) {M : Nat} (hM : M % p ≠ 0) {k j : Nat → Nat} (hk : ∀ i, i < x0.length → k i < x0.length) (h : ∀ i, i < x0.length → sp.getD (k i) 0 * u ^ j i % p = M * sp.getD i 0 % p) :
    ((List.range x0.length).map k).Perm (List.range x0.length) := by
  have hp0 : 0 < p := by have := S.g.pb; omega
  have e : (List.range x0.length).map k = (List.range x0.length).map fun i => kap p x0 T (M % p) i := List.map_congr_left fun i hi => (S.act hM (List.mem_range.mp hi) (hk i (List.mem_range.mp hi)) (h i (List.mem_range.mp hi))).1
  rw [e]
  exact S.g.f3 _ (Nat.mod_lt _ hp0) (Nat.pos_of_ne_zero hM)
end
end
end
section
theorem L_T_G2.ln9_T_G2 : True := trivial
open L_T L_T_G2
section
variable (prog : Program) (w : World) (loose : List Str) (mean : ExcName → Option Value) (mg mb : Str → Option Value)
structure DigAt (x : Str) (p : Nat) (c : Str) : Prop where
  s : cutAt x p = c
  l : c.length = 1
  w : InW (Str.ofString "\n\t\x0d ") c false
  q : EqB c (Str.ofString "\"") false
  b : EqB c (Str.ofString "\\") false
  m : ¬ c = Str.ofString "\n"
structure WsAt (x : Str) (p : Nat) (c : Str) (a b : Int) : Prop where
  s : cutAt x p = c
  l : c.length = 1
  w : InW (Str.ofString "\n\t\x0d ") c true
  e : (if c = Str.ofString "\n" then a + 1 else a) = b
inductive TokSt (x : Str) (p : Nat) (ds : List Str) (a : Int) (e : Nat) (b : Int) : Prop
  | plain (wb : Str) (hk : 1 ≤ ds.length) (hd : ∀ j c, ds[j]? = some c → DigAt x (p + j) c) (hw : WsAt x (p + ds.length) wb a b) (he : e = p + ds.length + 1)
  | quot (h0 : cutAt x p = Str.ofString "\"") (hd : ∀ j c, ds[j]? = some c → DigAt x (p + 1 + j) c) (h1 : cutAt x (p + 1 + ds.length) = Str.ofString "\"") (he : e = p + 1 + ds.length + 1) (hb : a = b)
  | esc (wb : Str) (hk : 1 ≤ ds.length) (hd : ∀ j c, ds[j]? = some c → cutAt x (p + 2 * j) = Str.ofString "\\" ∧ DigAt x (p + 2 * j + 1) c) (hw : WsAt x (p + 2 * ds.length) wb a b) (he : e = p + 2 * ds.length + 1)
  | fin (hc : ds = []) (h : cutAt x p = Str.ofString "") (he : e = p) (hb : a = b)
noncomputable def catF (ds : List Str) : Str := ds.foldl (fun a c => a ++ c) (Str.ofString "")
theorem catF_next {ds : List Str} {j : Nat} {c : Str} (h : ds[j]? = some c) : catF (ds.take j) ++ c = catF (ds.take (j + 1)) := by
  unfold catF
  rw [List.take_add_one, h, List.foldl_append]
  rfl
theorem fold_len : ∀ (ds : List Str) (a : Str), (∀ c ∈ ds, Str.length c = 1) → Str.length (ds.foldl (fun a c => a ++ c) a) = a.length + ds.length
  | [], _, _ => rfl
  | c :: r, a, h => by
    rw [List.foldl_cons, fold_len r _ fun c hc => h c (.tail _ hc), Str.length_append, h c (.head _), List.length_cons]
    omega
theorem catF_le {ds : List Str} (h : ∀ (j : Nat) (c : Str), ds[j]? = some c → Str.length c = 1) (hk : ds.length ≤ 9) (j : Nat) : (catF (ds.take j)).length ≤ 9 := by
  unfold catF
  rw [fold_len _ _ fun c hc => by
    k_extra "g"
    obtain ⟨k, hk⟩ := List.getElem?_of_mem (List.mem_of_mem_take hc)
    k_extra "h"
    exact h k c hk, List.length_take]
  show 0 + _ ≤ 9
  omega
theorem cat_fits {a b : Str} (h : a.length ≤ 9) (h2 : b.length = 1) : a.length + b.length ≤ sizeLine := by rw [PySem.sizeLine_eq]; omega
theorem kw9_G2_1 : True := by
  (k_with "lT_G2" => fail_if_success (fail_if_success (have h9 := ln9_T_G2)))
  (k_with "inplaceOp Add str str" => (k_extra "lT_G2"; ((refine SBL.iadd (hsz := ?hsz) ?_); (case hsz => exact cat_fits (by with_reducible assumption) (by with_reducible assumption)); intro _ _ _)))
  trivial
namespace tok_main
noncomputable section
def Claim9 (prog : Program) (w : World) (loose : List Str) (mean : ExcName → Option Value) (mg mb : Str → Option Value) (x : Str) (M S dS Fn c cA cT d P A : Addr) (fd : FuncData) (sl : Array (Option Value)) (fF : FuncData) (lF : Array (Option Value)) (oc oA oT : Obj) (h1 h2 h3 h4 h5 : Int) (t1 t2 t3 t4 t5 tl tw ti : Tok) (n3 n4 i lead : Nat) (wl : Nat → Str) (lnl : Nat → Int) (ds : List Str) (e : Nat) (b : Int) : Prop := ∀ (hne : Chain10 cT cA A c Fn S dS d M P) (hRC : RchCon prog w loose mean mg mb x M d A S P h1 h2 h3 h4 t1 t2 t3 t4 tw [(M, instObj 137 d), (S, fnObj (some dS) fd sl), (dS, readDict h5 t5 Fn), (Fn, fnObj none fF lF), (c, oc), (cA, oA), (cT, oT)]) (hl : lead ≤ 1) (hk9 : ds.length ≤ 9) (hw : ∀ j, j < lead → WsAt x (i + j) (wl j) (lnl j) (lnl (j + 1))) (hst : TokSt x (i + lead) ds (lnl lead) e b) (he : e ≤ x.length), Con prog w loose mean mg mb 356 280 127 [.ref M] [(M, instObj 137 d), (S, fnObj (some dS) fd sl), (dS, readDict h5 t5 Fn), (Fn, fnObj none fF lF), (c, oc), (cA, oA), (cT, oT), (P, W.listOf #[] n3)] [(d, machDict h1 h2 h3 h4 t1 t2 t3 t4 (lnl 0) tl S tw P), (A, W.listOf #[.int i ti] n4)]
      (fun r mu' nw => nw = [] ∧ ∃ t' tl' ti' n4', r = .str (catF ds) t' ∧ mu' = [(d, machDict h1 h2 h3 h4 t1 t2 t3 t4 b tl' S tw P), (A, W.listOf #[.int (e : Int) ti'] n4')])
abbrev T9 : Type := ((((((Program × World) × (List Str)) × (((ExcName → Option Value) × (Str → Option Value)) × (Str → Option Value))) × (((Str × Addr) × Addr) × ((Addr × Addr) × Addr))) × ((((Addr × Addr) × Addr) × ((Addr × Addr) × FuncData)) × ((((Array (Option Value)) × FuncData) × (Array (Option Value))) × (Obj × Obj)))) × (((((Obj × Int) × Int) × ((Int × Int) × Int)) × (((Tok × Tok) × Tok) × ((Tok × Tok) × Tok))) × ((((Tok × Tok) × Nat) × ((Nat × Nat) × Nat)) × ((((Nat → Str) × (Nat → Int)) × (List Str)) × (Nat × Int)))))
def U9 (t : T9) : Prop := Claim9 t.1.1.1.1.1.1 t.1.1.1.1.1.2 t.1.1.1.1.2 t.1.1.1.2.1.1 t.1.1.1.2.1.2 t.1.1.1.2.2 t.1.1.2.1.1.1 t.1.1.2.1.1.2 t.1.1.2.1.2 t.1.1.2.2.1.1 t.1.1.2.2.1.2 t.1.1.2.2.2 t.1.2.1.1.1.1 t.1.2.1.1.1.2 t.1.2.1.1.2 t.1.2.1.2.1.1 t.1.2.1.2.1.2 t.1.2.1.2.2 t.1.2.2.1.1.1 t.1.2.2.1.1.2 t.1.2.2.1.2 t.1.2.2.2.1 t.1.2.2.2.2 t.2.1.1.1.1.1 t.2.1.1.1.1.2 t.2.1.1.1.2 t.2.1.1.2.1.1 t.2.1.1.2.1.2 t.2.1.1.2.2 t.2.1.2.1.1.1 t.2.1.2.1.1.2 t.2.1.2.1.2 t.2.1.2.2.1.1 t.2.1.2.2.1.2 t.2.1.2.2.2 t.2.2.1.1.1.1 t.2.2.1.1.1.2 t.2.2.1.1.2 t.2.2.1.2.1.1 t.2.2.1.2.1.2 t.2.2.1.2.2 t.2.2.2.1.1.1 t.2.2.2.1.1.2 t.2.2.2.1.2 t.2.2.2.2.1 t.2.2.2.2.2
@[irreducible] def v9 : T9 := ch9 (by k_extra "NE") U9
theorem spec9 : U9 v9 → ∀ t, U9 t := by with_unfolding_all exact sp9 _ U9
theorem core9 : U9 v9 := by
  refine (let prog := v9.1.1.1.1.1.1; let w := v9.1.1.1.1.1.2; let loose := v9.1.1.1.1.2; let mean := v9.1.1.1.2.1.1; let mg := v9.1.1.1.2.1.2; let mb := v9.1.1.1.2.2; let x := v9.1.1.2.1.1.1; let M := v9.1.1.2.1.1.2; let S := v9.1.1.2.1.2; let dS := v9.1.1.2.2.1.1; let Fn := v9.1.1.2.2.1.2; let c := v9.1.1.2.2.2; let cA := v9.1.2.1.1.1.1; let cT := v9.1.2.1.1.1.2; let d := v9.1.2.1.1.2; let P := v9.1.2.1.2.1.1; let A := v9.1.2.1.2.1.2; let fd := v9.1.2.1.2.2; let sl := v9.1.2.2.1.1.1; let fF := v9.1.2.2.1.1.2; let lF := v9.1.2.2.1.2; let oc := v9.1.2.2.2.1; let oA := v9.1.2.2.2.2; let oT := v9.2.1.1.1.1.1; let h1 := v9.2.1.1.1.1.2; let h2 := v9.2.1.1.1.2; let h3 := v9.2.1.1.2.1.1; let h4 := v9.2.1.1.2.1.2; let h5 := v9.2.1.1.2.2; let t1 := v9.2.1.2.1.1.1; let t2 := v9.2.1.2.1.1.2; let t3 := v9.2.1.2.1.2; let t4 := v9.2.1.2.2.1.1; let t5 := v9.2.1.2.2.1.2; let tl := v9.2.1.2.2.2; let tw := v9.2.2.1.1.1.1; let ti := v9.2.2.1.1.1.2; let n3 := v9.2.2.1.1.2; let n4 := v9.2.2.1.2.1.1; let i := v9.2.2.1.2.1.2; let lead := v9.2.2.1.2.2; let wl := v9.2.2.2.1.1.1; let lnl := v9.2.2.2.1.1.2; let ds := v9.2.2.2.1.2; let e := v9.2.2.2.2.1; let b := v9.2.2.2.2.2; (?_ : Claim9 prog w loose mean mg mb x M S dS Fn c cA cT d P A fd sl fF lF oc oA oT h1 h2 h3 h4 h5 t1 t2 t3 t4 t5 tl tw ti n3 n4 i lead wl lnl ds e b))
  clear_value prog w loose mean mg mb x M S dS Fn c cA cT d P A fd sl fF lF oc oA oT h1 h2 h3 h4 h5 t1 t2 t3 t4 t5 tl tw ti n3 n4 i lead wl lnl ds e b
  intro hne hRC hl hk9 hw hst he
  unfold Chain10 at hne
  have S9 : Srt [cT, cA, A, c, Fn, S, dS, d, M, P] := srt_c (hne.1) <| srt_c (hne.2.1) <| srt_c (hne.2.2.1) <| srt_c (hne.2.2.2.1) <| srt_c (hne.2.2.2.2.1) <| srt_c (hne.2.2.2.2.2.1) <| srt_c (hne.2.2.2.2.2.2.1) <| srt_c (hne.2.2.2.2.2.2.2.1) <| srt_c (hne.2.2.2.2.2.2.2.2) <| srt_1
  k_extra "CON"
  k_extra "TOREST"
  rename_i q hA lq I hB lI hC FA NA
  clear N1
  k_extra "g"
  obtain ⟨tT, NA⟩ : ∃ tT, News g' L' hC [(I, citObj q (Str.ofString "") tT), (q, methodObj (.ref 120) (.ref M)), (M, instObj 137 d), (S, fnObj (some dS) fd sl), (dS, readDict h5 t5 Fn), (Fn, fnObj none fF lF), (c, oc), (cA, oA), (cT, oT), (P, W.listOf #[] n3), (d, machDict h1 h2 h3 h4 t1 t2 t3 t4 (lnl 0) tl S tw P), (A, W.listOf #[.int ((i : Nat) : Int) ti] n4)] := ⟨_, NA⟩
  obtain ⟨J, Jd⟩ := opq (fun (j : Nat) (s' : Shared) => ∃ h tk m' tt tl' ti' n4', s' = { s with heap := h, toks := tk } ∧ Fr g' L' h m' ∧ m' (Str.ofString "self") = some (.ref M) ∧ m' (Str.ofString "token") = some (.str (Str.ofString "") tt) ∧ m' (Str.ofString "fiter") = some (.ref I) ∧ News g' L' h [(I, citObj q (Str.ofString "") tT), (q, methodObj (.ref 120) (.ref M)), (M, instObj 137 d), (S, fnObj (some dS) fd sl), (dS, readDict h5 t5 Fn), (Fn, fnObj none fF lF), (c, oc), (cA, oA), (cT, oT), (P, W.listOf #[] n3), (d, machDict h1 h2 h3 h4 t1 t2 t3 t4 (lnl j) tl' S tw P), (A, W.listOf #[.int ((i + j : Nat) : Int) ti'] n4')])
  k_extra "h"
  refine owit_ind (J := J) lead ?step ?fin 64 0 _ (by omega) (Nat.zero_le _) ?j0
  case j0 =>
    rw [Jd]
    exact exI_7 _ _ _ _ _ _ _ ⟨rfl, FA, rfl, rfl, rfl, NA⟩
  case step =>
    intro j s' hj hJ
    rw [Jd] at hJ
    refine ex_7 hJ ?_; clear hJ; intro h tk m' tt tl' ti' n4' hJ
    refine and_6 hJ ?_; clear hJ; intro hs FB e1 e2 e3 NB
    subst hs
    have F3 := fr_know3 FB e1 e2 e3
    clear FB e1 e2 e3
    clear FA NA
    have W := hw j hj
    have z1 := W.s; have z2 := W.l; have z3 := W.w
    have hjx : i + j + 1 ≤ x.length := by
      have : i + lead ≤ e := by rcases hst with ⟨_, _, _, _, h⟩ | ⟨_, _, _, h, _⟩ | ⟨_, _, _, _, h⟩ | ⟨_, _, h, _⟩ <;> omega
      omega
    k_extra "TOSTORE"
    refine opq_turn ?_; intro QT9 hT9
    k_extra "STEPSD"
    rename Fr g' L' _ _ => FE
    rename News g' L' _ _ => NB
    rw [Jd]
    rw [W.e] at NB
    exact exI_7 _ _ _ _ _ _ _ ⟨rfl, FE, rfl, rfl, rfl, NB⟩
  case fin =>
    intro s' hJ
    rw [Jd] at hJ
    refine ex_7 hJ ?_; clear hJ; intro h tk m' tt tl' ti' n4' hJ
    refine and_6 hJ ?_; clear hJ; intro hs FB e1 e2 e3 NB
    subst hs
    have F3 := fr_know3 FB e1 e2 e3
    clear FB e1 e2 e3
    clear FA NA Jd J hw
    k_extra "g"
    rcases hst with ⟨wb, hk, hdd, hww, he2⟩ | ⟨h0q, hdd, h1q, he2, hb2⟩ | ⟨wb, hk, hdd, hww, he2⟩ | ⟨hc2, h0q, he2, hb2⟩ <;> k_extra "h"
    · obtain ⟨ca, hc0⟩ : ∃ ca, ds[0]? = some ca := ⟨_, List.getElem?_eq_getElem hk⟩
      have D : DigAt x (i + lead) ca := hdd 0 ca hc0
      have z1 := D.s; have z2 := D.l; have z3 := D.w; have z4 := D.q; have z5 := D.b
      have z8 : (Str.ofString "").length ≤ 9 := by decide
      subst he2
      k_extra "TOSTORE"
      refine opq_turn ?_; intro QT9 hT9
      k_extra "TOREST"
      clear z1 z2 z3 z4 z5
      rename Fr g' L' _ _ => FE
      rename News g' L' _ _ => NE
      k_extra "g"
      obtain ⟨K, Kd⟩ := opq (fun (j : Nat) (s' : Shared) => ∃ h tk m' tt tl' ti' n4', s' = { s with heap := h, toks := tk } ∧ Fr g' L' h m' ∧ m' (Str.ofString "self") = some (.ref M) ∧ m' (Str.ofString "token") = some (.str (catF (ds.take j)) tt) ∧ m' (Str.ofString "fiter") = some (.ref I) ∧ News g' L' h [(I, citObj q (Str.ofString "") tT), (q, methodObj (.ref 120) (.ref M)), (M, instObj 137 d), (S, fnObj (some dS) fd sl), (dS, readDict h5 t5 Fn), (Fn, fnObj none fF lF), (c, oc), (cA, oA), (cT, oT), (P, W.listOf #[] n3), (d, machDict h1 h2 h3 h4 t1 t2 t3 t4 (lnl lead) tl' S tw P), (A, W.listOf #[.int (((i + lead) + j : Nat) : Int) ti'] n4')])
      k_extra "h"
      refine owit_ind (J := K) ds.length ?step2 ?fin2 64 1 _ (by omega) (by omega) ?j2
      case j2 =>
        rw [Kd]
        (try rw [if_neg (hdd 0 _ hc0).m] at NE)
        (try rw [if_neg (hdd 0 _ hc0).2.m] at NE)
        exact exI_7 _ _ _ _ _ _ _ ⟨rfl, FE, rfl, (if_pos rfl).trans (congrArg (fun z => some (Value.str z _)) (catF_next hc0)), rfl, NE⟩
      clear FE NE
      case step2 =>
        intro j s' hj hJ
        rw [Kd] at hJ
        refine ex_7 hJ ?_; clear hJ; intro h tk m' tt tl' ti' n4' hJ
        refine and_6 hJ ?_; clear hJ; intro hs FB e1 e2 e3 NB
        subst hs
        have F3 := fr_know3 FB e1 e2 e3
        clear FB e1 e2 e3
        k_extra "g"
        obtain ⟨cj, hcj⟩ : ∃ cj, ds[j]? = some cj := ⟨_, List.getElem?_eq_getElem hj⟩
        k_extra "h"
        have D := hdd j cj hcj
        have z1 := D.s; have z2 := D.l; have z3 := D.w; have z4 := D.q; have z5 := D.b
        have z7 := catF_le (fun j c h => (hdd j c h).l) hk9 j
        k_extra "TOSTORE"
        refine opq_turn ?_; intro QT9 hT9
        k_extra "STEPSD"
        rename Fr g' L' _ _ => FE
        rename News g' L' _ _ => NB
        rw [Kd]
        rw [if_neg D.m] at NB
        exact exI_7 _ _ _ _ _ _ _ ⟨rfl, FE, rfl, (if_pos rfl).trans (congrArg (fun z => some (Value.str z _)) (catF_next hcj)), rfl, NB⟩
      case fin2 =>
        intro s' hJ
        rw [Kd] at hJ
        refine ex_7 hJ ?_; clear hJ; intro h tk m' tt tl' ti' n4' hJ
        refine and_6 hJ ?_; clear hJ; intro hs FB e1 e2 e3 NB
        subst hs
        have F3 := fr_know3 FB e1 e2 e3
        clear FB e1 e2 e3
        have z1 := hww.s; have z2 := hww.l; have z3 := hww.w; have z6 := hww.e
        rw [List.take_of_length_le (Nat.le_refl _)] at F3
        k_extra "TOSTORE"
        refine opq_turn ?_; intro QT9 hT9
        k_extra "STEPSD"
        k_extra "LV"
        simp only [z6]
        refine end_cut 0 10 ?_ ?_ ?_
        all_goals first | (dsimp only [List.take, List.drop]; exact ⟨rfl, _, _, _, _, rfl, rfl⟩) | k_extra "SUBS" | k_extra "NES"
    · subst he2 hb2
      k_extra "TOSTORE"
      refine opq_turn ?_; intro QT9 hT9
      k_extra "TOREST"
      rename Fr g' L' _ _ => FE
      rename News g' L' _ _ => NE
      k_extra "g"
      obtain ⟨K, Kd⟩ := opq (fun (j : Nat) (s' : Shared) => ∃ h tk m' tt tl' ti' n4', s' = { s with heap := h, toks := tk } ∧ Fr g' L' h m' ∧ m' (Str.ofString "self") = some (.ref M) ∧ m' (Str.ofString "token") = some (.str (catF (ds.take j)) tt) ∧ m' (Str.ofString "fiter") = some (.ref I) ∧ News g' L' h [(I, citObj q (Str.ofString "") tT), (q, methodObj (.ref 120) (.ref M)), (M, instObj 137 d), (S, fnObj (some dS) fd sl), (dS, readDict h5 t5 Fn), (Fn, fnObj none fF lF), (c, oc), (cA, oA), (cT, oT), (P, W.listOf #[] n3), (d, machDict h1 h2 h3 h4 t1 t2 t3 t4 (lnl lead) tl' S tw P), (A, W.listOf #[.int (((i + lead) + 1 + j : Nat) : Int) ti'] n4')])
      k_extra "h"
      refine owit_ind (J := K) ds.length ?step2 ?fin2 64 0 _ (by omega) (by omega) ?j2
      case j2 =>
        rw [Kd]
        exact exI_7 _ _ _ _ _ _ _ ⟨rfl, FE, rfl, rfl, rfl, NE⟩
      clear FE NE
      case step2 =>
        intro j s' hj hJ
        rw [Kd] at hJ
        refine ex_7 hJ ?_; clear hJ; intro h tk m' tt tl' ti' n4' hJ
        refine and_6 hJ ?_; clear hJ; intro hs FB e1 e2 e3 NB
        subst hs
        have F3 := fr_know3 FB e1 e2 e3
        clear FB e1 e2 e3
        k_extra "g"
        obtain ⟨cj, hcj⟩ : ∃ cj, ds[j]? = some cj := ⟨_, List.getElem?_eq_getElem hj⟩
        k_extra "h"
        have D := hdd j cj hcj
        have z1 := D.s; have z2 := D.l; have z3 := D.w; have z4 := D.q; have z5 := D.b
        have z7 := catF_le (fun j c h => (hdd j c h).l) hk9 j
        k_extra "TOSTORE"
        refine opq_turn ?_; intro QT9 hT9
        k_extra "STEPSD"
        rename Fr g' L' _ _ => FE
        rename News g' L' _ _ => NB
        rw [Kd]
        rw [if_neg D.m] at NB
        exact exI_7 _ _ _ _ _ _ _ ⟨rfl, FE, rfl, (if_pos rfl).trans (congrArg (fun z => some (Value.str z _)) (catF_next hcj)), rfl, NB⟩
      case fin2 =>
        intro s' hJ
        rw [Kd] at hJ
        refine ex_7 hJ ?_; clear hJ; intro h tk m' tt tl' ti' n4' hJ
        refine and_6 hJ ?_; clear hJ; intro hs FB e1 e2 e3 NB
        subst hs
        have F3 := fr_know3 FB e1 e2 e3
        clear FB e1 e2 e3
        have z1 := h1q
        rw [List.take_of_length_le (Nat.le_refl _)] at F3
        k_extra "TOSTORE"
        refine opq_turn ?_; intro QT9 hT9
        k_extra "STEPSD"
        k_extra "LV"
        simp only [if_neg (show ¬ Str.ofString "\"" = Str.ofString "\n" by decide)]
        refine end_cut 0 10 ?_ ?_ ?_
        all_goals first | (dsimp only [List.take, List.drop]; exact ⟨rfl, _, _, _, _, rfl, rfl⟩) | k_extra "SUBS" | k_extra "NES"
    · obtain ⟨ca, hc0⟩ : ∃ ca, ds[0]? = some ca := ⟨_, List.getElem?_eq_getElem hk⟩
      k_extra "g"
      obtain ⟨z0, D⟩ := hdd 0 ca hc0
      k_extra "h"
      have z1 : cutAt x (i + lead + 1) = ca := D.s; have z2 := D.l; have z3 := D.w; have z4 := D.q; have z5 := D.b
      have z8 : (Str.ofString "").length ≤ 9 := by decide
      have z0' : cutAt x (i + lead) = Str.ofString "\\" := z0
      subst he2
      k_extra "TOSTORE"
      refine opq_turn ?_; intro QT9 hT9
      k_extra "TOREST"
      clear z1 z2 z3 z4 z5
      rename Fr g' L' _ _ => FE
      rename News g' L' _ _ => NE
      k_extra "g"
      obtain ⟨K, Kd⟩ := opq (fun (j : Nat) (s' : Shared) => ∃ h tk m' tt tl' ti' n4', s' = { s with heap := h, toks := tk } ∧ Fr g' L' h m' ∧ m' (Str.ofString "self") = some (.ref M) ∧ m' (Str.ofString "token") = some (.str (catF (ds.take j)) tt) ∧ m' (Str.ofString "fiter") = some (.ref I) ∧ News g' L' h [(I, citObj q (Str.ofString "") tT), (q, methodObj (.ref 120) (.ref M)), (M, instObj 137 d), (S, fnObj (some dS) fd sl), (dS, readDict h5 t5 Fn), (Fn, fnObj none fF lF), (c, oc), (cA, oA), (cT, oT), (P, W.listOf #[] n3), (d, machDict h1 h2 h3 h4 t1 t2 t3 t4 (lnl lead) tl' S tw P), (A, W.listOf #[.int (((i + lead) + 2 * j : Nat) : Int) ti'] n4')])
      k_extra "h"
      refine owit_ind (J := K) ds.length ?step2 ?fin2 64 1 _ (by omega) (by omega) ?j2
      case j2 =>
        rw [Kd]
        (try rw [if_neg (hdd 0 _ hc0).m] at NE)
        (try rw [if_neg (hdd 0 _ hc0).2.m] at NE)
        exact exI_7 _ _ _ _ _ _ _ ⟨rfl, FE, rfl, (if_pos rfl).trans (congrArg (fun z => some (Value.str z _)) (catF_next hc0)), rfl, NE⟩
      clear FE NE
      case step2 =>
        intro j s' hj hJ
        rw [Kd] at hJ
        refine ex_7 hJ ?_; clear hJ; intro h tk m' tt tl' ti' n4' hJ
        refine and_6 hJ ?_; clear hJ; intro hs FB e1 e2 e3 NB
        subst hs
        have F3 := fr_know3 FB e1 e2 e3
        clear FB e1 e2 e3
        k_extra "g"
        obtain ⟨cj, hcj⟩ : ∃ cj, ds[j]? = some cj := ⟨_, List.getElem?_eq_getElem hj⟩
        obtain ⟨z0, D⟩ := hdd j cj hcj
        k_extra "h"
        have hjx : i + lead + 2 * j + 1 ≤ x.length := by omega
        have z1 := D.s; have z2 := D.l; have z3 := D.w; have z4 := D.q; have z5 := D.b
        have z7 := catF_le (fun j c h => (hdd j c h).2.l) hk9 j
        k_extra "TOSTORE"
        refine opq_turn ?_; intro QT9 hT9
        k_extra "STEPSD"
        rename Fr g' L' _ _ => FE
        rename News g' L' _ _ => NB
        rw [Kd]
        (try simp only [if_neg (show ¬ Str.ofString "\\" = Str.ofString "\n" by decide)] at NB)
        rw [if_neg D.m] at NB
        exact exI_7 _ _ _ _ _ _ _ ⟨rfl, FE, rfl, (if_pos rfl).trans (congrArg (fun z => some (Value.str z _)) (catF_next hcj)), rfl, NB⟩
      case fin2 =>
        intro s' hJ
        rw [Kd] at hJ
        refine ex_7 hJ ?_; clear hJ; intro h tk m' tt tl' ti' n4' hJ
        refine and_6 hJ ?_; clear hJ; intro hs FB e1 e2 e3 NB
        subst hs
        have F3 := fr_know3 FB e1 e2 e3
        clear FB e1 e2 e3
        have z1 := hww.s; have z2 := hww.l; have z3 := hww.w; have z6 := hww.e
        rw [List.take_of_length_le (Nat.le_refl _)] at F3
        k_extra "TOSTORE"
        refine opq_turn ?_; intro QT9 hT9
        k_extra "STEPSD"
        k_extra "LV"
        simp only [z6]
        refine end_cut 0 10 ?_ ?_ ?_
        all_goals first | (dsimp only [List.take, List.drop]; exact ⟨rfl, _, _, _, _, rfl, rfl⟩) | k_extra "SUBS" | k_extra "NES"
    · subst he2 hb2 hc2
      k_extra "STEPSD"
      k_extra "LV"
      refine end_cut 0 9 ?_ ?_ ?_
      all_goals first | (dsimp only [List.take, List.drop]; exact ⟨rfl, _, _, _, _, rfl, rfl⟩) | k_extra "SUBS" | k_extra "NES"
end
end tok_main
theorem tok_main (x : Str) (M S dS Fn c cA cT d P A : Addr) (fd : FuncData) (sl : Array (Option Value)) (fF : FuncData) (lF : Array (Option Value)) (oc oA oT : Obj) (h1 h2 h3 h4 h5 : Int) (t1 t2 t3 t4 t5 tl tw ti : Tok) (n3 n4 : Nat) (i : Nat)
    (hne : Chain10 cT cA A c Fn S dS d M P) (hRC : RchCon prog w loose mean mg mb x M d A S P h1 h2 h3 h4 t1 t2 t3 t4 tw [(M, instObj 137 d), (S, fnObj (some dS) fd sl), (dS, readDict h5 t5 Fn), (Fn, fnObj none fF lF), (c, oc), (cA, oA), (cT, oT)])
    (lead : Nat) (wl : Nat → Str) (lnl : Nat → Int) (ds : List Str) (e : Nat) (b : Int) (hl : lead ≤ 1) (hk9 : ds.length ≤ 9) (hw : ∀ j, j < lead → WsAt x (i + j) (wl j) (lnl j) (lnl (j + 1))) (hst : TokSt x (i + lead) ds (lnl lead) e b) (he : e ≤ x.length) :
    Con prog w loose mean mg mb 356 280 127 [.ref M] [(M, instObj 137 d), (S, fnObj (some dS) fd sl), (dS, readDict h5 t5 Fn), (Fn, fnObj none fF lF), (c, oc), (cA, oA), (cT, oT), (P, W.listOf #[] n3)] [(d, machDict h1 h2 h3 h4 t1 t2 t3 t4 (lnl 0) tl S tw P), (A, W.listOf #[.int i ti] n4)]
      (fun r mu' nw => nw = [] ∧ ∃ t' tl' ti' n4', r = .str (catF ds) t' ∧ mu' = [(d, machDict h1 h2 h3 h4 t1 t2 t3 t4 b tl' S tw P), (A, W.listOf #[.int (e : Int) ti'] n4')]) := ((tok_main.spec9 tok_main.core9 ((((((prog, w), loose), ((mean, mg), mb)), (((x, M), S), ((dS, Fn), c))), ((((cA, cT), d), ((P, A), fd)), (((sl, fF), lF), (oc, oA)))), (((((oT, h1), h2), ((h3, h4), h5)), (((t1, t2), t3), ((t4, t5), tl))), ((((tw, ti), n3), ((n4, i), lead)), (((wl, lnl), ds), (e, b))))) : tok_main.Claim9 prog w loose mean mg mb x M S dS Fn c cA cT d P A fd sl fF lF oc oA oT h1 h2 h3 h4 h5 t1 t2 t3 t4 t5 tl tw ti n3 n4 i lead wl lnl ds e b)) hne hRC hl hk9 hw hst he
end
end
section
theorem L_T_TK0.ln9_T_TK0 : True := trivial
open L_T_TK0
section
variable (prog : Program) (w : World) (loose : List Str) (mean : ExcName → Option Value) (mg mb : Str → Option Value)
theorem kw9_TK0_1 : True := by
  (k_with "lT_TK0" => fail_if_success (fail_if_success (have h9 := ln9_T_TK0)))
  (k_with "omega" => (k_extra "lT_TK0"; first | (with_reducible assumption) | lia | omega +splitDisjunctions))
  trivial
theorem str_len {x : Str} : x.length = x.cps.toList.length := rfl
theorem cut_of {x : Str} {l r : List Nat} {c : Nat} (h : x.cps.toList = l ++ c :: r) {i : Nat} (hi : i = l.length) : cutAt x i = ⟨#[c]⟩ := by
  subst hi
  have hlen : x.length = l.length + 1 + r.length := by
    rw [str_len, h]; simp; omega
  have hs := PySem.StrLaws.sliced_plain x (a := l.length) (b := l.length + 1) (by omega) (by omega)
  have hp := PySem.StrLaws.strSliceIndices_plain (a := l.length) (b := l.length + 1) (len := x.length) (by omega) (by omega)
  rw [h, List.drop_left, show l.length + 1 - l.length = 1 from by omega] at hs
  unfold cutAt Txt.slice
  rw [show ((l.length : Int) + 1) = ((l.length + 1 : Nat) : Int) from by omega]
  split
  · rename_i hh
    rw [hp] at hh
    have h1 : x.length = 1 := by
      simp only [Bool.and_eq_true, beq_iff_eq] at hh
      have := hh.2
      simp at this
      omega
    have hl : l = [] := List.length_eq_zero_iff.mp (by omega)
    have hr : r = [] := List.length_eq_zero_iff.mp (by omega)
    subst hl hr
    exact congrArg Str.mk (Array.toList_inj.mp h)
  · exact congrArg (fun l => Str.mk (List.toArray l)) hs
theorem cut_end {x : Str} {i : Nat} (hx : 1 ≤ x.length) (hi : i = x.length) : cutAt x i = Str.ofString "" := by
  subst hi
  have hp : PySem.Builtin.Str.strSliceIndices (some (x.length : Int)) (some ((x.length : Int) + 1)) 1 x.length = [] := by
    apply List.eq_nil_of_length_eq_zero
    unfold PySem.Builtin.Str.strSliceIndices PySem.sliceRange
    simp
    omega
  unfold cutAt Txt.slice
  rw [hp, if_neg]
  · rfl
  · simp only [Bool.and_eq_true, beq_iff_eq, List.length_nil, not_and]
    omega
end
end
section
section
variable (prog : Program) (w : World) (loose : List Str) (mean : ExcName → Option Value) (mg mb : Str → Option Value)
noncomputable def pieceF (x : Str) (q : Int) : Str := if q = 2 then Txt.join (Str.ofString "") (x.cps.toList.map fun c => Str.ofString "\\" ++ ⟨#[c]⟩) else if q = 1 then Str.ofString "\"" ++ x ++ Str.ofString "\"" else x
noncomputable def textF (xs : List Str) (qs : List Int) : Nat → Str
  | 0 => Str.ofString ""
  | i + 1 => textF xs qs i ++ pieceF (xs.getD i (Str.ofString "")) (qs.getD i 0) ++ Txt.item (Str.ofString " \n\t") ((i : Int).fmod 3)
end
end
section
theorem L_T_TK1.ln9_T_TK1 : True := trivial
open L_T_TK1
section
variable (prog : Program) (w : World) (loose : List Str) (mean : ExcName → Option Value) (mg mb : Str → Option Value)
theorem kw9_TK1_1 : True := by
  (k_with "lT_TK1" => fail_if_success (fail_if_success (have h9 := ln9_T_TK1)))
  (k_with "omega" => (k_extra "lT_TK1"; first | (with_reducible assumption) | lia | omega +splitDisjunctions))
  trivial
inductive DigOk : Str → Prop
  | one (a : Nat) (h : 48 ≤ a ∧ a < 58) : DigOk ⟨#[a]⟩
  | two (a b : Nat) (h : 48 ≤ a ∧ a < 58) (h2 : 48 ≤ b ∧ b < 58) : DigOk ⟨#[a, b]⟩
theorem dig_w {a : Nat} (h : 48 ≤ a ∧ a < 58) : InW (Str.ofString "\n\t\x0d ") ⟨#[a]⟩ false ∧ EqB ⟨#[a]⟩ (Str.ofString "\"") false ∧ EqB ⟨#[a]⟩ (Str.ofString "\\") false ∧ ¬ (⟨#[a]⟩ : Str) = Str.ofString "\n" := by
  unfold InW EqB
  revert a
  have key : ∀ b : Fin 10, (!(PySem.Builtin.Str.occurrences (Str.ofString "\n\t\x0d ") ⟨#[48 + b.val]⟩ 0 (Str.ofString "\n\t\x0d ").length 1).isEmpty) = false ∧ ((⟨#[48 + b.val]⟩ : Str) == Str.ofString "\"") = false ∧ ((⟨#[48 + b.val]⟩ : Str) == Str.ofString "\\") = false ∧ ¬ (⟨#[48 + b.val]⟩ : Str) = Str.ofString "\n" := by decide +kernel
  intro a h
  k_extra "g"
  obtain ⟨c, rfl⟩ : ∃ c, a = 48 + c := ⟨a - 48, by omega⟩
  k_extra "h"
  exact key ⟨c, by omega⟩
noncomputable def sepC (k : Nat) : Nat := if k % 3 = 0 then 32 else if k % 3 = 1 then 10 else 9
theorem sep_item {k : Nat} (h : k < 6) : Txt.item (Str.ofString " \n\t") ((k : Int).fmod 3) = ⟨#[sepC k]⟩ := by
  have : k = 0 ∨ k = 1 ∨ k = 2 ∨ k = 3 ∨ k = 4 ∨ k = 5 := by omega
  rcases this with rfl | rfl | rfl | rfl | rfl | rfl <;> decide +kernel
theorem sep_w (k : Nat) : InW (Str.ofString "\n\t\x0d ") ⟨#[sepC k]⟩ true := by
  unfold sepC InW
  split
  · decide +kernel
  · split <;> decide +kernel
theorem nl_step (k : Nat) : Hid ((if (⟨#[sepC k]⟩ : Str) = Str.ofString "\n" then (1 + (((k + 1) / 3 : Nat) : Int)) + 1 else 1 + (((k + 1) / 3 : Nat) : Int)) = 1 + (((k + 2) / 3 : Nat) : Int)) := by
  refine Hid.mk ?_
  unfold sepC
  have : k % 3 = 0 ∨ k % 3 = 1 ∨ k % 3 = 2 := by omega
  k_extra "g"
  rcases this with h | h | h <;> k_extra "h"
  · rw [if_pos h, if_neg (show ¬ (⟨#[32]⟩ : Str) = Str.ofString "\n" from by decide)]; omega
  · rw [if_neg (show ¬ k % 3 = 0 from by omega), if_pos h, if_pos (show (⟨#[10]⟩ : Str) = Str.ofString "\n" from by decide)]; omega
  · rw [if_neg (show ¬ k % 3 = 0 from by omega), if_neg (show ¬ k % 3 = 1 from by omega), if_neg (show ¬ (⟨#[9]⟩ : Str) = Str.ofString "\n" from by decide)]; omega
theorem app_toList (a b : Str) : (a ++ b).cps.toList = a.cps.toList ++ b.cps.toList := by
  rw [PySem.Str.cps_append, Array.toList_append]
noncomputable def pieceL (x : List Nat) (q : Int) : List Nat := if q = 2 then x.flatMap (fun c => [92, c]) else if q = 1 then 34 :: (x ++ [34]) else x
theorem pieceF_list {x : Str} (hx : DigOk x) (q : Int) : (pieceF x q).cps.toList = pieceL x.cps.toList q := by
  unfold pieceF pieceL
  by_cases h2 : q = 2
  · rw [if_pos h2, if_pos h2]
    cases hx with
    | one a h => rfl
    | two a b h h2 => rfl
  · rw [if_neg h2, if_neg h2]
    by_cases h1 : q = 1
    · rw [if_pos h1, if_pos h1, app_toList, app_toList]
      rfl
    · rw [if_neg h1, if_neg h1]
section
variable {xs : List Str} {qs : List Int}
theorem textF_list {k : Nat} (hd : ∀ x ∈ xs, DigOk x) (hk : k < xs.length) (h6 : xs.length ≤ 6) : (textF xs qs (k + 1)).cps.toList = (textF xs qs k).cps.toList ++ (pieceL (xs.getD k (Str.ofString "")).cps.toList (qs.getD k 0) ++ [sepC k]) := by
  have hm : xs.getD k (Str.ofString "") ∈ xs := by
    rw [List.getD_eq_getElem?_getD, List.getElem?_eq_getElem hk]
    exact List.getElem_mem _
  show (textF xs qs k ++ pieceF _ _ ++ Txt.item _ _).cps.toList = _
  rw [app_toList, app_toList, pieceF_list (hd _ hm), sep_item (by omega), List.append_assoc]
theorem textF_more {k : Nat} (hd : ∀ x ∈ xs, DigOk x) (h6 : xs.length ≤ 6) : ∀ j, k + j ≤ xs.length → ∃ r, (textF xs qs (k + j)).cps.toList = (textF xs qs k).cps.toList ++ r
  | 0, _ => ⟨[], by simp⟩
  | j + 1, h => by
    k_extra "g"
    obtain ⟨r, hr⟩ := textF_more (k := k) hd h6 j (by omega)
    k_extra "h"
    exact ⟨r ++ _, by rw [show k + (j + 1) = k + j + 1 from rfl, textF_list hd (by omega) h6, hr, List.append_assoc]⟩
def leadF (qs : List Int) (k : Nat) : Prop := k ≠ 0 ∧ qs.getD (k - 1) 0 = 1
instance leadD (qs : List Int) (k : Nat) : Decidable (leadF qs k) := by unfold leadF; infer_instance
noncomputable def posF (xs : List Str) (qs : List Int) (k : Nat) : Nat := (textF xs qs k).length - (if leadF qs k then 1 else 0)
noncomputable def lnF (qs : List Int) (k : Nat) : Int := if leadF qs k then 1 + ((k / 3 : Nat) : Int) else 1 + (((k + 1) / 3 : Nat) : Int)
end
theorem cut_nth {x : Str} {pre b r : List Nat} {i : Nat} (h : x.cps.toList = pre ++ (b ++ r)) (hi : pre.length = i) (j c : Nat) (hb : b[j]? = some c) {n : Nat} (hn : n = i + j) : cutAt x n = ⟨#[c]⟩ := by
  have hj : j < b.length := by
    by_cases q : j < b.length
    · exact q
    · rw [List.getElem?_eq_none (by omega)] at hb; cases hb
  refine cut_of (l := pre ++ b.take j) (r := b.drop (j + 1) ++ r) (c := c) ?_ (by rw [List.length_append, List.length_take]; omega)
  rw [h, List.append_assoc]
  congr 1
  have e : b[j] = c := by rw [List.getElem?_eq_getElem hj] at hb; exact Option.some.inj hb
  have : b = b.take j ++ c :: b.drop (j + 1) := by
    rw [← e, List.getElem_cons_drop, List.take_append_drop]
  rw [← List.cons_append, ← List.append_assoc, ← this]
end
end
section
theorem L_T_TK2.ln9_T_TK2 : True := trivial
open L_T_TK2
section
variable (prog : Program) (w : World) (loose : List Str) (mean : ExcName → Option Value) (mg mb : Str → Option Value)
theorem kw9_TK2_1 : True := by
  (k_with "lT_TK2" => fail_if_success (fail_if_success (have h9 := ln9_T_TK2)))
  (k_with "omega" => (k_extra "lT_TK2"; first | (with_reducible assumption) | lia | omega +splitDisjunctions))
  trivial
theorem dig_at {x : Str} {pre b r : List Nat} {p : Nat} (h : x.cps.toList = pre ++ (b ++ r)) (hp : pre.length = p) (j a : Nat) (hb : b[j]? = some a) (ha : 48 ≤ a ∧ a < 58) {n : Nat} (hn : n = p + j) : DigAt x n ⟨#[a]⟩ :=
  ⟨cut_nth h hp j a hb hn, rfl, (dig_w ha).1, (dig_w ha).2.1, (dig_w ha).2.2.1, (dig_w ha).2.2.2⟩
theorem ws_at {x : Str} {p k : Nat} (h : cutAt x p = ⟨#[sepC k]⟩) : WsAt x p ⟨#[sepC k]⟩ (1 + (((k + 1) / 3 : Nat) : Int)) (1 + (((k + 2) / 3 : Nat) : Int)) := ⟨h, rfl, sep_w k, (nl_step k).out⟩
namespace tok_st
noncomputable section
def Claim9 (x y : Str) (q : Int) (pre r : List Nat) (p k : Nat) : Prop := ∀ (hD : DigOk y) (hq : q = 0 ∨ q = 1 ∨ q = 2) (hx : x.cps.toList = pre ++ ((pieceL y.cps.toList q ++ [sepC k]) ++ r)) (hp : pre.length = p), ∃ ds, catF ds = y ∧ ds.length ≤ 9 ∧ TokSt x p ds (1 + (((k + 1) / 3 : Nat) : Int)) (p + (pieceL y.cps.toList q).length + if q = 1 then 0 else 1) (if q = 1 then 1 + (((k + 1) / 3 : Nat) : Int) else 1 + (((k + 2) / 3 : Nat) : Int))
abbrev T9 : Type := (((Str × Str) × (Int × (List Nat))) × (((List Nat) × Nat) × Nat))
def U9 (t : T9) : Prop := Claim9 t.1.1.1 t.1.1.2 t.1.2.1 t.1.2.2 t.2.1.1 t.2.1.2 t.2.2
@[irreducible] def v9 : T9 := ch9 (by k_extra "NE") U9
theorem spec9 : U9 v9 → ∀ t, U9 t := by with_unfolding_all exact sp9 _ U9
theorem core9 : U9 v9 := by
  refine (let x := v9.1.1.1; let y := v9.1.1.2; let q := v9.1.2.1; let pre := v9.1.2.2; let r := v9.2.1.1; let p := v9.2.1.2; let k := v9.2.2; (?_ : Claim9 x y q pre r p k))
  clear_value x y q pre r p k
  intro hD hq hx hp
  have c := fun j a hb n hn => cut_nth (n := n) hx hp j a hb hn
  have d := fun j a hb ha n hn => dig_at (n := n) hx hp j a hb ha hn
  clear hx hp
  cases hD with
  | one a ha =>
    refine ⟨[⟨#[a]⟩], rfl, by simp, ?_⟩
    k_extra "g"
    rcases hq with rfl | rfl | rfl <;> k_extra "h"
    · exact .plain ⟨#[sepC k]⟩ (by simp) (by
        rintro (_ | j) z hz
        · cases hz; exact d 0 a rfl ha _ rfl
        · cases hz) (ws_at (c 1 _ rfl _ rfl)) rfl
    · exact .quot (c 0 34 rfl _ rfl) (by
        rintro (_ | j) z hz
        · cases hz; exact d 1 a rfl ha _ rfl
        · cases hz) (c 2 34 rfl _ rfl) rfl rfl
    · exact .esc ⟨#[sepC k]⟩ (by simp) (by
        rintro (_ | j) z hz
        · cases hz; exact ⟨c 0 92 rfl _ rfl, d 1 a rfl ha _ rfl⟩
        · cases hz) (ws_at (c 2 _ rfl _ rfl)) rfl
  | two a b ha hb =>
    refine ⟨[⟨#[a]⟩, ⟨#[b]⟩], rfl, by simp, ?_⟩
    k_extra "g"
    rcases hq with rfl | rfl | rfl <;> k_extra "h"
    · exact .plain ⟨#[sepC k]⟩ (by simp) (by
        rintro (_ | _ | j) z hz
        · cases hz; exact d 0 a rfl ha _ rfl
        · cases hz; exact d 1 b rfl hb _ rfl
        · cases hz) (ws_at (c 2 _ rfl _ rfl)) rfl
    · exact .quot (c 0 34 rfl _ rfl) (by
        rintro (_ | _ | j) z hz
        · cases hz; exact d 1 a rfl ha _ rfl
        · cases hz; exact d 2 b rfl hb _ rfl
        · cases hz) (c 3 34 rfl _ rfl) rfl rfl
    · exact .esc ⟨#[sepC k]⟩ (by simp) (by
        rintro (_ | _ | j) z hz
        · cases hz; exact ⟨c 0 92 rfl _ rfl, d 1 a rfl ha _ rfl⟩
        · cases hz; exact ⟨c 2 92 rfl _ rfl, d 3 b rfl hb _ rfl⟩
        · cases hz) (ws_at (c 4 _ rfl _ rfl)) rfl
end
end tok_st
theorem tok_st {x y : Str} {q : Int} {pre r : List Nat} {p k : Nat} (hD : DigOk y) (hq : q = 0 ∨ q = 1 ∨ q = 2) (hx : x.cps.toList = pre ++ ((pieceL y.cps.toList q ++ [sepC k]) ++ r)) (hp : pre.length = p) :
    ∃ ds, catF ds = y ∧ ds.length ≤ 9 ∧ TokSt x p ds (1 + (((k + 1) / 3 : Nat) : Int)) (p + (pieceL y.cps.toList q).length + if q = 1 then 0 else 1) (if q = 1 then 1 + (((k + 1) / 3 : Nat) : Int) else 1 + (((k + 2) / 3 : Nat) : Int)) := ((tok_st.spec9 tok_st.core9 (((x, y), (q, pre)), ((r, p), k)) : tok_st.Claim9 x y q pre r p k)) hD hq hx hp
theorem con_cast {dp un : Nat} {f : Addr} {vs : List Value} {ro mu mu' : Led} {R R' : Value → Led → Led → Prop} (h : Con prog w loose mean mg mb dp un f vs ro mu R) (e : mu = mu') (hR : ∀ r m n, R r m n → R' r m n) : Con prog w loose mean mg mb dp un f vs ro mu' R' := by
  subst e
  intro gd cn cs a ccd cl outer A₀ base h₀ L m s Q E B F X N T hk ret
  exact h gd cn cs a ccd cl outer A₀ base h₀ L m s Q E B F X N T hk fun r m2 n2 h2 t2 F2 N2 k2 n3 hr => ret r m2 n2 h2 t2 F2 N2 k2 n3 (hR _ _ _ hr)
namespace tok_all
noncomputable section
def Claim9 (prog : Program) (w : World) (loose : List Str) (mean : ExcName → Option Value) (mg mb : Str → Option Value) (xs : List Str) (qs : List Int) (k : Nat) (x : Str) (M S dS Fn c cA cT d P A : Addr) (fd : FuncData) (sl : Array (Option Value)) (fF : FuncData) (lF : Array (Option Value)) (oc oA oT : Obj) (h1 h2 h3 h4 h5 : Int) (t1 t2 t3 t4 t5 tl tw ti : Tok) (n3 n4 : Nat) : Prop := ∀ (hd : ∀ x ∈ xs, DigOk x) (h6 : xs.length ≤ 6) (hql : qs.length = xs.length) (hqr : ∀ q ∈ qs, 0 ≤ q ∧ q ≤ 2) (hk : k < xs.length) (hxx : x = textF xs qs xs.length) (hne : Chain10 cT cA A c Fn S dS d M P) (hRC : RchCon prog w loose mean mg mb x M d A S P h1 h2 h3 h4 t1 t2 t3 t4 tw [(M, instObj 137 d), (S, fnObj (some dS) fd sl), (dS, readDict h5 t5 Fn), (Fn, fnObj none fF lF), (c, oc), (cA, oA), (cT, oT)]), Con prog w loose mean mg mb 356 280 127 [.ref M] [(M, instObj 137 d), (S, fnObj (some dS) fd sl), (dS, readDict h5 t5 Fn), (Fn, fnObj none fF lF), (c, oc), (cA, oA), (cT, oT), (P, W.listOf #[] n3)] [(d, machDict h1 h2 h3 h4 t1 t2 t3 t4 (lnF qs k) tl S tw P), (A, W.listOf #[.int ((posF xs qs k : Nat) : Int) ti] n4)]
      (fun r mu' nw => nw = [] ∧ ∃ t' tl' ti' n4', r = .str (xs.getD k (Str.ofString "")) t' ∧ mu' = [(d, machDict h1 h2 h3 h4 t1 t2 t3 t4 (lnF qs (k + 1)) tl' S tw P), (A, W.listOf #[.int ((posF xs qs (k + 1) : Nat) : Int) ti'] n4')])
abbrev T9 : Type := ((((((Program × World) × (List Str)) × (((ExcName → Option Value) × (Str → Option Value)) × (Str → Option Value))) × ((((List Str) × (List Int)) × Nat) × (Str × Addr))) × ((((Addr × Addr) × Addr) × (Addr × Addr)) × (((Addr × Addr) × Addr) × (Addr × FuncData)))) × ((((((Array (Option Value)) × FuncData) × (Array (Option Value))) × ((Obj × Obj) × Obj)) × (((Int × Int) × Int) × (Int × Int))) × ((((Tok × Tok) × Tok) × (Tok × Tok)) × (((Tok × Tok) × Tok) × (Nat × Nat)))))
def U9 (t : T9) : Prop := Claim9 t.1.1.1.1.1.1 t.1.1.1.1.1.2 t.1.1.1.1.2 t.1.1.1.2.1.1 t.1.1.1.2.1.2 t.1.1.1.2.2 t.1.1.2.1.1.1 t.1.1.2.1.1.2 t.1.1.2.1.2 t.1.1.2.2.1 t.1.1.2.2.2 t.1.2.1.1.1.1 t.1.2.1.1.1.2 t.1.2.1.1.2 t.1.2.1.2.1 t.1.2.1.2.2 t.1.2.2.1.1.1 t.1.2.2.1.1.2 t.1.2.2.1.2 t.1.2.2.2.1 t.1.2.2.2.2 t.2.1.1.1.1.1 t.2.1.1.1.1.2 t.2.1.1.1.2 t.2.1.1.2.1.1 t.2.1.1.2.1.2 t.2.1.1.2.2 t.2.1.2.1.1.1 t.2.1.2.1.1.2 t.2.1.2.1.2 t.2.1.2.2.1 t.2.1.2.2.2 t.2.2.1.1.1.1 t.2.2.1.1.1.2 t.2.2.1.1.2 t.2.2.1.2.1 t.2.2.1.2.2 t.2.2.2.1.1.1 t.2.2.2.1.1.2 t.2.2.2.1.2 t.2.2.2.2.1 t.2.2.2.2.2
@[irreducible] def v9 : T9 := ch9 (by k_extra "NE") U9
theorem spec9 : U9 v9 → ∀ t, U9 t := by with_unfolding_all exact sp9 _ U9
theorem core9 : U9 v9 := by
  refine (let prog := v9.1.1.1.1.1.1; let w := v9.1.1.1.1.1.2; let loose := v9.1.1.1.1.2; let mean := v9.1.1.1.2.1.1; let mg := v9.1.1.1.2.1.2; let mb := v9.1.1.1.2.2; let xs := v9.1.1.2.1.1.1; let qs := v9.1.1.2.1.1.2; let k := v9.1.1.2.1.2; let x := v9.1.1.2.2.1; let M := v9.1.1.2.2.2; let S := v9.1.2.1.1.1.1; let dS := v9.1.2.1.1.1.2; let Fn := v9.1.2.1.1.2; let c := v9.1.2.1.2.1; let cA := v9.1.2.1.2.2; let cT := v9.1.2.2.1.1.1; let d := v9.1.2.2.1.1.2; let P := v9.1.2.2.1.2; let A := v9.1.2.2.2.1; let fd := v9.1.2.2.2.2; let sl := v9.2.1.1.1.1.1; let fF := v9.2.1.1.1.1.2; let lF := v9.2.1.1.1.2; let oc := v9.2.1.1.2.1.1; let oA := v9.2.1.1.2.1.2; let oT := v9.2.1.1.2.2; let h1 := v9.2.1.2.1.1.1; let h2 := v9.2.1.2.1.1.2; let h3 := v9.2.1.2.1.2; let h4 := v9.2.1.2.2.1; let h5 := v9.2.1.2.2.2; let t1 := v9.2.2.1.1.1.1; let t2 := v9.2.2.1.1.1.2; let t3 := v9.2.2.1.1.2; let t4 := v9.2.2.1.2.1; let t5 := v9.2.2.1.2.2; let tl := v9.2.2.2.1.1.1; let tw := v9.2.2.2.1.1.2; let ti := v9.2.2.2.1.2; let n3 := v9.2.2.2.2.1; let n4 := v9.2.2.2.2.2; (?_ : Claim9 prog w loose mean mg mb xs qs k x M S dS Fn c cA cT d P A fd sl fF lF oc oA oT h1 h2 h3 h4 h5 t1 t2 t3 t4 t5 tl tw ti n3 n4))
  clear_value prog w loose mean mg mb xs qs k x M S dS Fn c cA cT d P A fd sl fF lF oc oA oT h1 h2 h3 h4 h5 t1 t2 t3 t4 t5 tl tw ti n3 n4
  intro hd h6 hql hqr hk hxx hne hRC
  k_extra "g"
  obtain ⟨r, hr⟩ := textF_more (xs := xs) (qs := qs) (k := k + 1) hd h6 (xs.length - (k + 1)) (by omega)
  rw [show k + 1 + (xs.length - (k + 1)) = xs.length from by omega, ← hxx] at hr
  have ht := textF_list (qs := qs) hd hk h6
  have hm : xs.getD k (Str.ofString "") ∈ xs := by
    rw [List.getD_eq_getElem?_getD, List.getElem?_eq_getElem hk]
    exact List.getElem_mem _
  have hqm : qs.getD k 0 ∈ qs := by
    rw [List.getD_eq_getElem?_getD, List.getElem?_eq_getElem (by omega)]
    exact List.getElem_mem _
  have hq0 := hqr _ hqm
  have hq3 : qs.getD k 0 = 0 ∨ qs.getD k 0 = 1 ∨ qs.getD k 0 = 2 := by omega
  have hn1 : leadF qs (k + 1) ↔ qs.getD k 0 = 1 := ⟨fun h => h.2, fun h => ⟨by omega, h⟩⟩
  have hL : (textF xs qs (k + 1)).length = (textF xs qs k).length + (pieceL (xs.getD k (Str.ofString "")).cps.toList (qs.getD k 0)).length + 1 := by
    rw [str_len, ht, str_len]; simp; omega
  have hxl : x.length = (textF xs qs (k + 1)).length + r.length := by
    rw [str_len, hr, str_len, List.length_append]
  rw [ht, List.append_assoc] at hr
  have hp2 : posF xs qs (k + 1) = (textF xs qs k).length + (pieceL (xs.getD k (Str.ofString "")).cps.toList (qs.getD k 0)).length + if qs.getD k 0 = 1 then 0 else 1 := by
    unfold posF
    rw [hL]
    by_cases h : qs.getD k 0 = 1
    · rw [if_pos (hn1.mpr h), if_pos h]; rfl
    · rw [if_neg (fun g => h (hn1.mp g)), if_neg h]; rfl
  have hl2 : lnF qs (k + 1) = if qs.getD k 0 = 1 then 1 + (((k + 1) / 3 : Nat) : Int) else 1 + (((k + 2) / 3 : Nat) : Int) := by
    unfold lnF
    by_cases h : qs.getD k 0 = 1
    · rw [if_pos (hn1.mpr h), if_pos h]
    · rw [if_neg (fun g => h (hn1.mp g)), if_neg h]
  obtain ⟨ds, hcat, hd9, hst⟩ := tok_st (p := (textF xs qs k).length) (hd _ hm) hq3 hr rfl
  k_extra "h"
  rw [← hp2, ← hl2] at hst
  have hpx : posF xs qs (k + 1) ≤ x.length := by unfold posF; omega
  by_cases hl : leadF qs k
  · obtain ⟨k', rfl⟩ : ∃ k', k = k' + 1 := ⟨k - 1, by have := hl.1; omega⟩
    have ht' := textF_list (qs := qs) hd (show k' < xs.length by omega) h6
    have hP1 : (textF xs qs (k' + 1)).length = posF xs qs (k' + 1) + 1 := by
      have : 1 ≤ (textF xs qs (k' + 1)).length := by rw [str_len, ht']; simp; omega
      unfold posF
      rw [if_pos hl]
      omega
    have h0 : cutAt x (posF xs qs (k' + 1)) = ⟨#[sepC k']⟩ := by
      refine cut_of (l := (textF xs qs k').cps.toList ++ pieceL (xs.getD k' (Str.ofString "")).cps.toList (qs.getD k' 0)) (r := (pieceL (xs.getD (k' + 1) (Str.ofString "")).cps.toList (qs.getD (k' + 1) 0) ++ [sepC (k' + 1)]) ++ r) (by rw [hr, ht']; simp) ?_
      have : (textF xs qs (k' + 1)).length = (textF xs qs (k' + 1)).cps.toList.length := rfl
      rw [ht'] at this
      simp only [List.length_append, List.length_cons, List.length_nil] at this ⊢
      omega
    rw [hP1] at hst
    refine con_cast prog w loose mean mg mb (tok_main prog w loose mean mg mb x M S dS Fn c cA cT d P A fd sl fF lF oc oA oT h1 h2 h3 h4 h5 t1 t2 t3 t4 t5 tl tw ti n3 n4 (posF xs qs (k' + 1)) hne hRC 1 (fun _ => ⟨#[sepC k']⟩) (fun j => 1 + (((k' + 1 + j) / 3 : Nat) : Int)) ds _ _ (Nat.le_refl _) hd9 ?_ hst hpx) (by rw [show lnF qs (k' + 1) = 1 + (((k' + 1) / 3 : Nat) : Int) from if_pos hl]) fun r m n h => by rw [hcat] at h; exact h
    intro j hj
    k_extra "g"
    obtain rfl : j = 0 := by omega
    k_extra "h"
    exact ws_at h0
  · have hP1 : (textF xs qs k).length = posF xs qs k := by
      unfold posF
      rw [if_neg hl]
      rfl
    rw [hP1] at hst
    exact con_cast prog w loose mean mg mb (tok_main prog w loose mean mg mb x M S dS Fn c cA cT d P A fd sl fF lF oc oA oT h1 h2 h3 h4 h5 t1 t2 t3 t4 t5 tl tw ti n3 n4 (posF xs qs k) hne hRC 0 (fun _ => Str.ofString "") (fun _ => 1 + (((k + 1) / 3 : Nat) : Int)) ds _ _ (Nat.zero_le _) hd9 (fun j hj => absurd hj (Nat.not_lt_zero _)) hst hpx) (by rw [show lnF qs k = 1 + (((k + 1) / 3 : Nat) : Int) from if_neg hl]) fun r m n h => by rw [hcat] at h; exact h
end
end tok_all
theorem tok_all {xs : List Str} {qs : List Int} (hd : ∀ x ∈ xs, DigOk x) (h6 : xs.length ≤ 6) (hql : qs.length = xs.length) (hqr : ∀ q ∈ qs, 0 ≤ q ∧ q ≤ 2) {k : Nat} (hk : k < xs.length) (x : Str) (hxx : x = textF xs qs xs.length) (M S dS Fn c cA cT d P A : Addr) (fd : FuncData) (sl : Array (Option Value)) (fF : FuncData) (lF : Array (Option Value)) (oc oA oT : Obj) (h1 h2 h3 h4 h5 : Int) (t1 t2 t3 t4 t5 tl tw ti : Tok) (n3 n4 : Nat)
    (hne : Chain10 cT cA A c Fn S dS d M P) (hRC : RchCon prog w loose mean mg mb x M d A S P h1 h2 h3 h4 t1 t2 t3 t4 tw [(M, instObj 137 d), (S, fnObj (some dS) fd sl), (dS, readDict h5 t5 Fn), (Fn, fnObj none fF lF), (c, oc), (cA, oA), (cT, oT)]) :
    Con prog w loose mean mg mb 356 280 127 [.ref M] [(M, instObj 137 d), (S, fnObj (some dS) fd sl), (dS, readDict h5 t5 Fn), (Fn, fnObj none fF lF), (c, oc), (cA, oA), (cT, oT), (P, W.listOf #[] n3)] [(d, machDict h1 h2 h3 h4 t1 t2 t3 t4 (lnF qs k) tl S tw P), (A, W.listOf #[.int ((posF xs qs k : Nat) : Int) ti] n4)]
      (fun r mu' nw => nw = [] ∧ ∃ t' tl' ti' n4', r = .str (xs.getD k (Str.ofString "")) t' ∧ mu' = [(d, machDict h1 h2 h3 h4 t1 t2 t3 t4 (lnF qs (k + 1)) tl' S tw P), (A, W.listOf #[.int ((posF xs qs (k + 1) : Nat) : Int) ti'] n4')]) := ((tok_all.spec9 tok_all.core9 ((((((prog, w), loose), ((mean, mg), mb)), (((xs, qs), k), (x, M))), ((((S, dS), Fn), (c, cA)), (((cT, d), P), (A, fd)))), (((((sl, fF), lF), ((oc, oA), oT)), (((h1, h2), h3), (h4, h5))), ((((t1, t2), t3), (t4, t5)), (((tl, tw), ti), (n3, n4))))) : tok_all.Claim9 prog w loose mean mg mb xs qs k x M S dS Fn c cA cT d P A fd sl fF lF oc oA oT h1 h2 h3 h4 h5 t1 t2 t3 t4 t5 tl tw ti n3 n4)) hd h6 hql hqr hk hxx hne hRC
namespace tok_end
noncomputable section
def Claim9 (prog : Program) (w : World) (loose : List Str) (mean : ExcName → Option Value) (mg mb : Str → Option Value) (xs : List Str) (qs : List Int) (x : Str) (M S dS Fn c cA cT d P A : Addr) (fd : FuncData) (sl : Array (Option Value)) (fF : FuncData) (lF : Array (Option Value)) (oc oA oT : Obj) (h1 h2 h3 h4 h5 : Int) (t1 t2 t3 t4 t5 tl tw ti : Tok) (n3 n4 : Nat) : Prop := ∀ (hd : ∀ x ∈ xs, DigOk x) (h6 : xs.length ≤ 6) (hn0 : 1 ≤ xs.length) (hxx : x = textF xs qs xs.length) (hne : Chain10 cT cA A c Fn S dS d M P) (hRC : RchCon prog w loose mean mg mb x M d A S P h1 h2 h3 h4 t1 t2 t3 t4 tw [(M, instObj 137 d), (S, fnObj (some dS) fd sl), (dS, readDict h5 t5 Fn), (Fn, fnObj none fF lF), (c, oc), (cA, oA), (cT, oT)]), Con prog w loose mean mg mb 356 280 127 [.ref M] [(M, instObj 137 d), (S, fnObj (some dS) fd sl), (dS, readDict h5 t5 Fn), (Fn, fnObj none fF lF), (c, oc), (cA, oA), (cT, oT), (P, W.listOf #[] n3)] [(d, machDict h1 h2 h3 h4 t1 t2 t3 t4 (lnF qs xs.length) tl S tw P), (A, W.listOf #[.int ((posF xs qs xs.length : Nat) : Int) ti] n4)]
      (fun r mu' nw => nw = [] ∧ ∃ t' tl' ti' n4', r = .str (Str.ofString "") t' ∧ mu' = [(d, machDict h1 h2 h3 h4 t1 t2 t3 t4 (1 + (((xs.length + 1) / 3 : Nat) : Int)) tl' S tw P), (A, W.listOf #[.int ((x.length : Nat) : Int) ti'] n4')])
abbrev T9 : Type := ((((((Program × World) × (List Str)) × (((ExcName → Option Value) × (Str → Option Value)) × (Str → Option Value))) × ((((List Str) × (List Int)) × Str) × (Addr × Addr))) × ((((Addr × Addr) × Addr) × (Addr × Addr)) × (((Addr × Addr) × Addr) × (FuncData × (Array (Option Value)))))) × (((((FuncData × (Array (Option Value))) × Obj) × (Obj × Obj)) × (((Int × Int) × Int) × (Int × Int))) × ((((Tok × Tok) × Tok) × (Tok × Tok)) × (((Tok × Tok) × Tok) × (Nat × Nat)))))
def U9 (t : T9) : Prop := Claim9 t.1.1.1.1.1.1 t.1.1.1.1.1.2 t.1.1.1.1.2 t.1.1.1.2.1.1 t.1.1.1.2.1.2 t.1.1.1.2.2 t.1.1.2.1.1.1 t.1.1.2.1.1.2 t.1.1.2.1.2 t.1.1.2.2.1 t.1.1.2.2.2 t.1.2.1.1.1.1 t.1.2.1.1.1.2 t.1.2.1.1.2 t.1.2.1.2.1 t.1.2.1.2.2 t.1.2.2.1.1.1 t.1.2.2.1.1.2 t.1.2.2.1.2 t.1.2.2.2.1 t.1.2.2.2.2 t.2.1.1.1.1.1 t.2.1.1.1.1.2 t.2.1.1.1.2 t.2.1.1.2.1 t.2.1.1.2.2 t.2.1.2.1.1.1 t.2.1.2.1.1.2 t.2.1.2.1.2 t.2.1.2.2.1 t.2.1.2.2.2 t.2.2.1.1.1.1 t.2.2.1.1.1.2 t.2.2.1.1.2 t.2.2.1.2.1 t.2.2.1.2.2 t.2.2.2.1.1.1 t.2.2.2.1.1.2 t.2.2.2.1.2 t.2.2.2.2.1 t.2.2.2.2.2
@[irreducible] def v9 : T9 := ch9 (by k_extra "NE") U9
theorem spec9 : U9 v9 → ∀ t, U9 t := by with_unfolding_all exact sp9 _ U9
theorem core9 : U9 v9 := by
  refine (let prog := v9.1.1.1.1.1.1; let w := v9.1.1.1.1.1.2; let loose := v9.1.1.1.1.2; let mean := v9.1.1.1.2.1.1; let mg := v9.1.1.1.2.1.2; let mb := v9.1.1.1.2.2; let xs := v9.1.1.2.1.1.1; let qs := v9.1.1.2.1.1.2; let x := v9.1.1.2.1.2; let M := v9.1.1.2.2.1; let S := v9.1.1.2.2.2; let dS := v9.1.2.1.1.1.1; let Fn := v9.1.2.1.1.1.2; let c := v9.1.2.1.1.2; let cA := v9.1.2.1.2.1; let cT := v9.1.2.1.2.2; let d := v9.1.2.2.1.1.1; let P := v9.1.2.2.1.1.2; let A := v9.1.2.2.1.2; let fd := v9.1.2.2.2.1; let sl := v9.1.2.2.2.2; let fF := v9.2.1.1.1.1.1; let lF := v9.2.1.1.1.1.2; let oc := v9.2.1.1.1.2; let oA := v9.2.1.1.2.1; let oT := v9.2.1.1.2.2; let h1 := v9.2.1.2.1.1.1; let h2 := v9.2.1.2.1.1.2; let h3 := v9.2.1.2.1.2; let h4 := v9.2.1.2.2.1; let h5 := v9.2.1.2.2.2; let t1 := v9.2.2.1.1.1.1; let t2 := v9.2.2.1.1.1.2; let t3 := v9.2.2.1.1.2; let t4 := v9.2.2.1.2.1; let t5 := v9.2.2.1.2.2; let tl := v9.2.2.2.1.1.1; let tw := v9.2.2.2.1.1.2; let ti := v9.2.2.2.1.2; let n3 := v9.2.2.2.2.1; let n4 := v9.2.2.2.2.2; (?_ : Claim9 prog w loose mean mg mb xs qs x M S dS Fn c cA cT d P A fd sl fF lF oc oA oT h1 h2 h3 h4 h5 t1 t2 t3 t4 t5 tl tw ti n3 n4))
  clear_value prog w loose mean mg mb xs qs x M S dS Fn c cA cT d P A fd sl fF lF oc oA oT h1 h2 h3 h4 h5 t1 t2 t3 t4 t5 tl tw ti n3 n4
  intro hd h6 hn0 hxx hne hRC
  have ht0 := textF_list (qs := qs) hd (show xs.length - 1 < xs.length by omega) h6
  rw [show xs.length - 1 + 1 = xs.length from by omega, ← hxx] at ht0
  have hx1 : 1 ≤ x.length := by
    rw [str_len, ht0]; simp; omega
  by_cases hl : leadF qs xs.length
  · obtain ⟨k', hk'⟩ : ∃ k', xs.length = k' + 1 := ⟨xs.length - 1, by omega⟩
    rw [show xs.length - 1 = k' from by omega] at ht0
    have e1 : lnF qs xs.length = 1 + (((k' + 1) / 3 : Nat) : Int) := by
      unfold lnF
      rw [if_pos hl, hk']
    have hP : posF xs qs xs.length = x.length - 1 := by
      unfold posF
      rw [if_pos hl, ← hxx]
    rw [e1, hP, show ((xs.length + 1) / 3 : Nat) = (k' + 2) / 3 from by omega]
    k_extra "g"
    obtain ⟨i, hi⟩ : ∃ i, x.length = i + 1 := ⟨x.length - 1, by omega⟩
    k_extra "h"
    rw [hi, show i + 1 - 1 = i from rfl]
    have h0 : cutAt x i = ⟨#[sepC k']⟩ := by
      refine cut_of (l := (textF xs qs k').cps.toList ++ pieceL (xs.getD k' (Str.ofString "")).cps.toList (qs.getD k' 0)) (r := []) (by rw [ht0]; simp) ?_
      have : x.length = x.cps.toList.length := rfl
      rw [ht0] at this
      simp only [List.length_append, List.length_cons, List.length_nil] at this ⊢
      omega
    exact con_cast prog w loose mean mg mb (tok_main prog w loose mean mg mb x M S dS Fn c cA cT d P A fd sl fF lF oc oA oT h1 h2 h3 h4 h5 t1 t2 t3 t4 t5 tl tw ti n3 n4 i hne hRC 1 (fun _ => ⟨#[sepC k']⟩) (fun j => 1 + (((k' + 1 + j) / 3 : Nat) : Int)) [] (i + 1) (1 + (((k' + 2) / 3 : Nat) : Int)) (Nat.le_refl _) (Nat.zero_le _) (fun j hj => by
      k_extra "g"
      obtain rfl : j = 0 := by omega
      k_extra "h"
      exact ws_at h0) (.fin rfl (cut_end hx1 (by omega)) rfl rfl) (by omega)) rfl fun r m n h => h
  · have e1 : lnF qs xs.length = 1 + (((xs.length + 1) / 3 : Nat) : Int) := if_neg hl
    have hP : posF xs qs xs.length = x.length := by
      unfold posF
      rw [if_neg hl, ← hxx]
      rfl
    rw [e1, hP]
    exact con_cast prog w loose mean mg mb (tok_main prog w loose mean mg mb x M S dS Fn c cA cT d P A fd sl fF lF oc oA oT h1 h2 h3 h4 h5 t1 t2 t3 t4 t5 tl tw ti n3 n4 x.length hne hRC 0 (fun _ => Str.ofString "") (fun _ => 1 + (((xs.length + 1) / 3 : Nat) : Int)) [] x.length (1 + (((xs.length + 1) / 3 : Nat) : Int)) (Nat.zero_le _) (Nat.zero_le _) (fun j hj => absurd hj (Nat.not_lt_zero _)) (.fin rfl (cut_end hx1 rfl) rfl rfl) (Nat.le_refl _)) rfl fun r m n h => h
end
end tok_end
theorem tok_end {xs : List Str} {qs : List Int} (hd : ∀ x ∈ xs, DigOk x) (h6 : xs.length ≤ 6) (hn0 : 1 ≤ xs.length) (x : Str) (hxx : x = textF xs qs xs.length) (M S dS Fn c cA cT d P A : Addr) (fd : FuncData) (sl : Array (Option Value)) (fF : FuncData) (lF : Array (Option Value)) (oc oA oT : Obj) (h1 h2 h3 h4 h5 : Int) (t1 t2 t3 t4 t5 tl tw ti : Tok) (n3 n4 : Nat)
    (hne : Chain10 cT cA A c Fn S dS d M P) (hRC : RchCon prog w loose mean mg mb x M d A S P h1 h2 h3 h4 t1 t2 t3 t4 tw [(M, instObj 137 d), (S, fnObj (some dS) fd sl), (dS, readDict h5 t5 Fn), (Fn, fnObj none fF lF), (c, oc), (cA, oA), (cT, oT)]) :
    Con prog w loose mean mg mb 356 280 127 [.ref M] [(M, instObj 137 d), (S, fnObj (some dS) fd sl), (dS, readDict h5 t5 Fn), (Fn, fnObj none fF lF), (c, oc), (cA, oA), (cT, oT), (P, W.listOf #[] n3)] [(d, machDict h1 h2 h3 h4 t1 t2 t3 t4 (lnF qs xs.length) tl S tw P), (A, W.listOf #[.int ((posF xs qs xs.length : Nat) : Int) ti] n4)]
      (fun r mu' nw => nw = [] ∧ ∃ t' tl' ti' n4', r = .str (Str.ofString "") t' ∧ mu' = [(d, machDict h1 h2 h3 h4 t1 t2 t3 t4 (1 + (((xs.length + 1) / 3 : Nat) : Int)) tl' S tw P), (A, W.listOf #[.int ((x.length : Nat) : Int) ti'] n4')]) := ((tok_end.spec9 tok_end.core9 ((((((prog, w), loose), ((mean, mg), mb)), (((xs, qs), x), (M, S))), ((((dS, Fn), c), (cA, cT)), (((d, P), A), (fd, sl)))), (((((fF, lF), oc), (oA, oT)), (((h1, h2), h3), (h4, h5))), ((((t1, t2), t3), (t4, t5)), (((tl, tw), ti), (n3, n4))))) : tok_end.Claim9 prog w loose mean mg mb xs qs x M S dS Fn c cA cT d P A fd sl fF lF oc oA oT h1 h2 h3 h4 h5 t1 t2 t3 t4 t5 tl tw ti n3 n4)) hd h6 hn0 hxx hne hRC
end
end
section
section
variable (prog : Program) (w : World) (loose : List Str) (mean : ExcName → Option Value) (mg mb : Str → Option Value)
noncomputable abbrev showI (n : Int) : Str := Str.ofString (toString n)
noncomputable def digB (x : Str) : Bool := match x.cps.toList with | [a] => decide (48 ≤ a ∧ a < 58) | [a, b] => decide (48 ≤ a ∧ a < 58) && decide (48 ≤ b ∧ b < 58) | _ => false
theorem digOk_of {x : Str} (h : digB x = true) : DigOk x := by
  unfold digB at h
  have e : x = ⟨x.cps.toList.toArray⟩ := by cases x; rfl
  split at h
  · rename_i a ha
    rw [e, ha]
    exact .one a (of_decide_eq_true h)
  · rename_i a b ha
    rw [e, ha]
    rw [Bool.and_eq_true] at h
    exact .two a b (of_decide_eq_true h.1) (of_decide_eq_true h.2)
  · cases h
theorem num_check : ∀ n : Fin 37, n.val = 0 ∨ (digB (showI (n.val : Int)) = true ∧ PySem.intText? (Txt.slice (showI (n.val : Int)) (some 0) (some ((showI (n.val : Int)).length : Int))) = some (n.val : Int) ∧
    stripSame Unicode.isSpace false true (showI (n.val : Int)) = true ∧ (PySem.Builtin.Str.occurrences (showI (n.val : Int)) (Str.ofString "_") 0 (showI (n.val : Int)).length ((showI (n.val : Int)).length + 1)).isEmpty = true) := by decide +kernel
theorem num_len {x : Str} (h : DigOk x) : x.length = 1 ∨ x.length = 2 := by
  cases h with
  | one a h => exact .inl rfl
  | two a b h h2 => exact .inr rfl
theorem num_ok {n : Int} (h : 1 ≤ n ∧ n ≤ 36) : DigOk (showI n) ∧ IntF (Txt.slice (showI n) (some 0) (some ((showI n).length : Int))) n ∧ RsF (showI n) ∧ RpF (showI n) := by
  k_extra "g"
  obtain ⟨k, rfl⟩ : ∃ k : Nat, n = (k : Int) := ⟨n.toNat, by omega⟩
  k_extra "h"
  have hk : k < 37 := by omega
  k_extra "g"
  rcases num_check ⟨k, hk⟩ with h0 | ⟨h1, h2, h3, h4⟩ <;> k_extra "h"
  · have : k = 0 := h0
    omega
  · have d := digOk_of h1
    refine ⟨d, ?_, ?_, ?_⟩
    · unfold IntF
      refine ⟨h2, Nat.le_trans (Txt.slice_le _ _ _) ?_⟩
      k_extra "g"
      rcases num_len d with h | h <;> k_extra "h"
      · have h' : (showI (k : Int)).length = 1 := h
        omega
      · have h' : (showI (k : Int)).length = 2 := h
        omega
    · unfold RsF; exact h3
    · unfold RpF; exact h4
end
end
section
open L_P L_U L_R
section
variable (prog : Program) (w : World) (loose : List Str) (mean : ExcName → Option Value) (mg mb : Str → Option Value)
section
variable {prog : Program} {w : World} {loose : List Str} {mean : ExcName → Option Value} {mg mb : Str → Option Value} {D U dp un f : Nat} {vs : List Value} {ro mu : Led} {R : Value → Led → Led → Prop}
theorem con_less (C : Con prog w loose mean mg mb D U f vs ro mu R) (hd : dp ≤ D) (hu : un ≤ U) : Con prog w loose mean mg mb dp un f vs ro mu R :=
  fun gd cn cs a ccd cl outer A₀ base h₀ L m s Q E B F X N T hk ret => codeAny_less (A := ktrTop D U gd cn cs L a ccd cl outer) (C gd cn cs a ccd cl outer A₀ base h₀ L m s Q E B F X N T hk ret) hd hu
end
theorem DivR.fst {z : Addr} {oz : Obj} {rr : Int} {r : Value} {mu' nw : Led} (h : DivR z z z oz oz (tabObj #[]) (tabObj #[]) rr r mu' nw) : ∃ T q t1 t2 c1 oc1 c2 oc2, r = .ref T ∧ mu' = [(59, tabI2 c1), (66, tabD2 c2)] ∧ nw = [(T, tup2 q rr t1 t2), (c2, oc2), (c1, oc1)] ∧ @LT.lt Nat _ z c1 ∧ @LT.lt Nat _ c1 c2 ∧ @LT.lt Nat _ c2 T ∧ CodeAs oc1 QI ∧ CodeAs oc2 QD := by
  refine ex_9 h fun T q t1 t2 c1' oc1' c2' oc2' nl k => and_7 k fun e1 e2 e3 l h1 h2 k => ?_
  refine exI_8 T q t1 t2 c1' oc1' c2' oc2' (k.elim (fun k => ?_) fun k => absurd k.1 (by simp [tabObj]))
  exact ⟨e1, e2, k.2.1 ▸ e3, k.2.2.1, k.2.2.2.1, k.2.2.2.2, h1, h2⟩
theorem DivR.snd {z c1 c2 : Addr} {oc1 oc2 : Obj} {rr : Int} {r : Value} {mu' nw : Led} (h : DivR z c1 c2 oc1 oc2 (tabI2 c1) (tabD2 c2) rr r mu' nw) : mu' = [(59, tabI2 c1), (66, tabD2 c2)] ∧ ∃ T q t1 t2, r = .ref T ∧ nw = [(T, tup2 q rr t1 t2)] ∧ @LT.lt Nat _ z T := by
  refine ex_9 h fun T q t1 t2 c1' oc1' c2' oc2' nl k => and_7 k fun e1 e2 e3 l h1 h2 k => k.elim (fun k => absurd k.1 (by simp [tabObj])) fun k => ?_
  exact ⟨by rw [e2, k.2.2.2.1, k.2.2.2.2.1], exI_4 T q t1 t2 ⟨e1, by rw [e3, k.2.2.1], l⟩⟩
theorem perm_5 {a b c d e p : Addr × Obj} (h : p ∈ [a, b, d] ++ [c, e]) : p ∈ [a, b, c, d, e] := by
  simp only [List.mem_cons, List.mem_append, List.not_mem_nil, or_false] at h ⊢
  rcases h with (h | h | h) | h | h <;> simp only [h, true_or, or_true]
theorem perm_5' {a b c d e p : Addr × Obj} (h : p ∈ [a, b, c, d, e]) : p ∈ [a, b, d] ++ [c, e] := by
  simp only [List.mem_cons, List.mem_append, List.not_mem_nil, or_false] at h ⊢
  rcases h with h | h | h | h | h <;> simp only [h, true_or, or_true]
theorem idm_U {x b : Int} (hb : PrimeOk b) (hx : - 2 ^ 20 ≤ x ∧ x < 2 ^ 20) : DivU prog w loose mean mg mb 339 190 85 x b (x.fmod b) := by
  by_cases h : x < 0
  · exact idmn_U prog w loose mean mg mb hb ⟨h, hx.1⟩
  · exact fun z c1 c2 oz oc1 oc2 o59 o66 t u hz n1 n2 n3 n4 hst => con_less (idmp_U prog w loose mean mg mb hb (by omega) z c1 c2 oz oc1 oc2 o59 o66 t u hz n1 n2 n3 n4 hst) (by decide) (by decide)
theorem idm_1 {x b : Int} (hb : PrimeOk b) (hx : - 2 ^ 20 ≤ x ∧ x < 2 ^ 20) : Div1 prog w loose mean mg mb 339 190 85 x b (x.fmod b) := by
  intro z oz t u hz
  have n1 : @Ne Nat z 59 := by omega
  have n2 : @Ne Nat z 66 := by omega
  refine (con_ro (idm_U prog w loose mean mg mb hb hx z z z oz oz oz (tabObj #[]) (tabObj #[]) t u hz n1 n2 n1 n2 (.inl ⟨rfl, rfl⟩)) (ro2 := [(z, oz)]) (fun p hp => ?_) (fun p hp => by rw [List.mem_singleton.mp hp]; exact .head _)).imp fun r mu' nw h => ?_
  · simp only [List.mem_cons, List.not_mem_nil, or_false, or_self] at hp ⊢
    exact hp
  · exact h.fst
theorem idm_2 {x b : Int} (hb : PrimeOk b) (hx : - 2 ^ 20 ≤ x ∧ x < 2 ^ 20) : Div2 prog w loose mean mg mb 339 190 85 x b (x.fmod b) := by
  intro z c1 c2 oz oc1 oc2 t u hz _ _ ho1 ho2 gd cn cs a ccd cl outer A₀ base h₀ L m s Q E B F X N T hk ret
  have m0 : (z, oz) ∈ [(z, oz), (c1, oc1), (59, tabI2 c1), (c2, oc2), (66, tabD2 c2)] ++ [] := .head _
  have m1 : (c1, oc1) ∈ [(z, oz), (c1, oc1), (59, tabI2 c1), (c2, oc2), (66, tabD2 c2)] ++ [] := .tail _ (.head _)
  have m2 : (59, tabI2 c1) ∈ [(z, oz), (c1, oc1), (59, tabI2 c1), (c2, oc2), (66, tabD2 c2)] ++ [] := mem_ix 2 rfl
  have m3 : (c2, oc2) ∈ [(z, oz), (c1, oc1), (59, tabI2 c1), (c2, oc2), (66, tabD2 c2)] ++ [] := mem_ix 3 rfl
  have m4 : (66, tabD2 c2) ∈ [(z, oz), (c1, oc1), (59, tabI2 c1), (c2, oc2), (66, tabD2 c2)] ++ [] := mem_ix 4 rfl
  refine ((con_same (idm_U prog w loose mean mg mb hb hx z c1 c2 oz oc1 oc2 (tabI2 c1) (tabD2 c2) t u hz (code_ne N m1 ho1 m2 (by simp [rawInt])) (code_ne N m1 ho1 m4 (by simp [rawInt])) (code_ne N m3 ho2 m2 (by simp [rawInt])) (code_ne N m3 ho2 m4 (by simp [rawInt])) (.inr ⟨rfl, rfl, ho1, ho2⟩)) (fun r mu' nw h => ?_) (ro2 := [(z, oz), (c1, oc1), (59, tabI2 c1), (c2, oc2), (66, tabD2 c2)]) (fun p hp => ?_) (fun p hp => ?_)).imp fun r mu' nw h => ?_) gd cn cs a ccd cl outer A₀ base h₀ L m s Q E B F X N T hk ret
  · exact h.snd.1
  · exact perm_5 hp
  · exact perm_5' hp
  · k_extra "g"
    obtain ⟨T, q, t1, t2, e1, e2, l⟩ := h.2.snd.2
    k_extra "h"
    exact ⟨T, q, t1, t2, e1, h.1, e2, l⟩
noncomputable def powm (x p : Int) : Nat → Int
  | 0 => 1
  | k + 1 => (powm x p k * x).fmod p
theorem powm_bd {x p : Int} (hp : PrimeOk p) : ∀ k, 0 ≤ powm x p k ∧ powm x p k < 64
  | 0 => by unfold powm; decide
  | k + 1 => by
    have h := primeOk_bits hp
    show 0 ≤ (powm x p k * x).fmod p ∧ (powm x p k * x).fmod p < 64
    rw [Int.fmod_eq_emod_of_nonneg _ (by omega)]
    exact ⟨Int.emod_nonneg _ (by omega), by have := Int.emod_lt_of_pos (powm x p k * x) h.1; omega⟩
namespace power_con
noncomputable section
def Claim9 (prog : Program) (w : World) (loose : List Str) (mean : ExcName → Option Value) (mg mb : Str → Option Value) (z c1 c2 : Addr) (oz oc1 oc2 : Obj) (x p : Int) (n : Nat) (t u v : Tok) : Prop := ∀ (hp : PrimeOk p) (hx : 0 ≤ x ∧ x ≤ 1300) (hn : n ≤ 6) (hz : @LT.lt Nat _ 66 z) (hl1 : @LE.le Nat _ c1 z) (hl2 : @LE.le Nat _ c2 z) (ho1 : CodeAs oc1 QI) (ho2 : CodeAs oc2 QD), Con prog w loose mean mg mb 335 160 203 [.int x t, .int (n : Int) u, .int p v] [(z, oz), (c1, oc1), (59, tabI2 c1), (c2, oc2), (66, tabD2 c2)] []
      (fun r mu' nw => mu' = [] ∧ nw = [] ∧ ∃ t', r = .int (powm x p n) t')
abbrev T9 : Type := (((((Program × World) × (List Str)) × ((ExcName → Option Value) × (Str → Option Value))) × (((Str → Option Value) × Addr) × (Addr × Addr))) × ((((Obj × Obj) × Obj) × (Int × Int)) × ((Nat × Tok) × (Tok × Tok))))
def U9 (t : T9) : Prop := Claim9 t.1.1.1.1.1 t.1.1.1.1.2 t.1.1.1.2 t.1.1.2.1 t.1.1.2.2 t.1.2.1.1 t.1.2.1.2 t.1.2.2.1 t.1.2.2.2 t.2.1.1.1.1 t.2.1.1.1.2 t.2.1.1.2 t.2.1.2.1 t.2.1.2.2 t.2.2.1.1 t.2.2.1.2 t.2.2.2.1 t.2.2.2.2
@[irreducible] def v9 : T9 := ch9 (by k_extra "NE") U9
theorem spec9 : U9 v9 → ∀ t, U9 t := by with_unfolding_all exact sp9 _ U9
theorem core9 : U9 v9 := by
  refine (let prog := v9.1.1.1.1.1; let w := v9.1.1.1.1.2; let loose := v9.1.1.1.2; let mean := v9.1.1.2.1; let mg := v9.1.1.2.2; let mb := v9.1.2.1.1; let z := v9.1.2.1.2; let c1 := v9.1.2.2.1; let c2 := v9.1.2.2.2; let oz := v9.2.1.1.1.1; let oc1 := v9.2.1.1.1.2; let oc2 := v9.2.1.1.2; let x := v9.2.1.2.1; let p := v9.2.1.2.2; let n := v9.2.2.1.1; let t := v9.2.2.1.2; let u := v9.2.2.2.1; let v := v9.2.2.2.2; (?_ : Claim9 prog w loose mean mg mb z c1 c2 oz oc1 oc2 x p n t u v))
  clear_value prog w loose mean mg mb z c1 c2 oz oc1 oc2 x p n t u v
  intro hp hx hn hz hl1 hl2 ho1 ho2
  k_extra "CON"
  k_extra "TOIT"
  rename_i h1 R t1 t2 h2 tk2 F1 N9 lR
  clear N1
  refine owit_range (n := n) (Dr := fun d => d = s.drawn) (fun i m led => ∃ tx tp t9, m (Str.ofString "power") = some (.int (powm x p i) t9) ∧ m (Str.ofString "number") = some (.int x tx) ∧ m (Str.ofString "prime") = some (.int p tp) ∧ led = [(R, rngObj 0 n t1 u t2), (z, oz), (c1, oc1), (59, tabI2 c1), (c2, oc2), (66, tabD2 c2)]) rfl F1 (led0 := [(R, rngObj 0 n t1 u t2), (z, oz), (c1, oc1), (59, tabI2 c1), (c2, oc2), (66, tabD2 c2)]) N9 (.head _) (by omega) (by omega) (by omega) rfl ?hJ ?turn ?fin
  case hJ => exact exI_3 _ _ _ ⟨rfl, rfl, rfl, rfl⟩
  case turn =>
    intro i tx h tk dr m' led I it hi hdr F2 N2 off hIl hJ
    refine ex_3 hJ ?_; clear hJ; intro t3 t4 t5 hJ
    refine and_4 hJ ?_; clear hJ; intro e1 e2 e3 hled
    rw [hled] at N2 off
    (try rw [hled] at hIl)
    clear hled
    subst hdr
    have F3 := fr_know3 F2 e1 e2 e3
    clear F2 e1 e2 e3 F1 N9
    k_lt hIl
    have hb := powm_bd hp i (x := x)
    have hbd : -2 ^ 20 ≤ powm x p i * x ∧ powm x p i * x < 2 ^ 20 := by
      have a1 : 0 ≤ powm x p i * x := Int.mul_nonneg hb.1 hx.1
      have a2 : powm x p i * x ≤ 63 * 1300 := Int.mul_le_mul (by omega) (by omega) (by omega) (by omega)
      omega
    have C := idm_2 prog w loose mean mg mb hp hbd
    have hpw : (powm x p i * x).fmod p = powm x p (i + 1) := rfl
    rw [hpw] at C
    (try dsimp only)
    (first | (refine opq_turn ?_; intro QT9 hT9) | (refine opq_V ?_; intro QT9 hT9))
    k_extra "STEPSD"
    rename News g' L' _ _ => NB
    exact exI_5 _ _ _ _ _ ⟨rfl, rfl, by assumption, fun p hp => NB p (.tail _ hp), off, trivial, _, _, _, rfl, rfl, rfl, rfl⟩
  case fin =>
    intro h tk dr m' led hdr F2 N2 hJ
    refine ex_3 hJ ?_; clear hJ; intro t3 t4 t5 hJ
    refine and_4 hJ ?_; clear hJ; intro e1 e2 e3 hled
    rw [hled] at N2
    clear hled
    subst hdr
    have F3 := fr_know3 F2 e1 e2 e3
    clear F2 e1 e2 e3 F1 N9
    (try dsimp only)
    k_extra "STEPSD"
    (try dsimp only)
    k_extra "LV"
    refine end_pick [] [] ⟨rfl, rfl, _, rfl⟩ ?_ ?_ ?_ ?_
    · k_extra "SUBS"
    · exact List.forall_mem_nil _
    · exact List.forall_mem_nil _
    · k_extra "NES"
end
end power_con
theorem power_con (z c1 c2 : Addr) (oz oc1 oc2 : Obj) (x p : Int) (n : Nat) (t u v : Tok) (hp : PrimeOk p) (hx : 0 ≤ x ∧ x ≤ 1300) (hn : n ≤ 6) (hz : @LT.lt Nat _ 66 z) (hl1 : @LE.le Nat _ c1 z) (hl2 : @LE.le Nat _ c2 z) (ho1 : CodeAs oc1 QI) (ho2 : CodeAs oc2 QD) :
    Con prog w loose mean mg mb 335 160 203 [.int x t, .int (n : Int) u, .int p v] [(z, oz), (c1, oc1), (59, tabI2 c1), (c2, oc2), (66, tabD2 c2)] []
      (fun r mu' nw => mu' = [] ∧ nw = [] ∧ ∃ t', r = .int (powm x p n) t') := ((power_con.spec9 power_con.core9 (((((prog, w), loose), (mean, mg)), ((mb, z), (c1, c2))), ((((oz, oc1), oc2), (x, p)), ((n, t), (u, v)))) : power_con.Claim9 prog w loose mean mg mb z c1 c2 oz oc1 oc2 x p n t u v)) hp hx hn hz hl1 hl2 ho1 ho2
end
end
section
section
variable (prog : Program) (w : World) (loose : List Str) (mean : ExcName → Option Value) (mg mb : Str → Option Value)
noncomputable abbrev lightObj (c : Nat) (t0 t1 t2 : Tok) (n : Nat) : Obj := W.listOf #[.int (lampR c) t0, .int (lampG c) t1, .int (lampB c) t2] n
def LightAt (fz : Led) (v : Value) (c : Nat) : Prop := c < 6 ∧ ∃ a t0 t1 t2 n, v = .ref a ∧ (a, lightObj c t0 t1 t2 n) ∈ fz
section
variable {prog : Program} {w : World} {loose : List Str} {mean : ExcName → Option Value} {mg mb : Str → Option Value} {dp un : Nat} {big : Led} {g : Obj → Led}
  {gd : Option (List Code)} {cn : Str} {cs : Scope} {a : Addr} {ccd : Value} {cl : List (Str × Addr)} {outer : List Env} {A₀ : Around} {base h₀ : Heap} {L z lt : Addr} {oz : Obj} {m : Str → Option Value} {s : Shared} {Q E : Value → Shared → Prop}
theorem turned_u {c k n : Nat} {t0 t1 t2 t : Tok} (hm : (lt, lightObj c t0 t1 t2 n) ∈ big) (hc : c < 6) (hk6 : k < 6) (hz : (z, oz) ∈ big) (hdp : dp ≤ 342) (hu : un ≤ 210) (B : Below A₀ base outer h₀) (F : Fr h₀ L s.heap m) (X : (kf.heap_1 w.params).In h₀) (N : News h₀ L s.heap big) (T : Top topProg loose mean mg mb h₀) (hk : cs.kind = .function)
    (ret : ∀ D u0 u1 u2 n' h' tk', Fr h₀ L h' m → News h₀ L h' ((D, lightObj ((c + k) % 6) u0 u1 u2 n') :: big) → @LT.lt Nat _ z D → Q (.ref D) { s with heap := h', toks := tk' }) :
    wpAny (model prog w) (ktrTop dp un gd cn cs L a ccd cl outer) (call (.ref 170) [.ref lt, .int (k : Int) t]) Q E s := by
  refine wpAny_call <| con_use0 (turned_con prog w loose mean mg mb z lt oz c k n t0 t1 t2 t hc hk6) hdp hu B F X N T hk (fun p hp => ?_) fun r mu' nw h' tk' F' N' hR hn => ?_
  · simp only [List.mem_cons, List.not_mem_nil, or_false] at hp
    k_extra "g"
    rcases hp with rfl | rfl <;> k_extra "h"
    · exact hz
    · exact hm
  · refine ex_5 hR fun D u0 u1 u2 n' k_ => and_4 k_ fun r1_ _ r2_ hl => ?_
    clear k_ hR
    subst r1_
    subst r2_
    exact ret D u0 u1 u2 n' h' tk' F' N' hl
theorem sixths_u {c n : Nat} {t0 t1 t2 : Tok} (hm : (lt, lightObj c t0 t1 t2 n) ∈ big) (hc : c < 6) (hz : (z, oz) ∈ big) (hdp : dp ≤ 342) (hu : un ≤ 210) (B : Below A₀ base outer h₀) (F : Fr h₀ L s.heap m) (X : (kf.heap_1 w.params).In h₀) (N : News h₀ L s.heap big) (T : Top topProg loose mean mg mb h₀) (hk : cs.kind = .function)
    (ret : ∀ u h' tk', Fr h₀ L h' m → News h₀ L h' big → Q (.int (c : Int) u) { s with heap := h', toks := tk' }) :
    wpAny (model prog w) (ktrTop dp un gd cn cs L a ccd cl outer) (call (.ref 177) [.ref lt]) Q E s := by
  refine wpAny_call <| con_use0 (sixths_con prog w loose mean mg mb z lt oz c n t0 t1 t2 hc) hdp hu B F X N T hk (fun p hp => ?_) fun r mu' nw h' tk' F' N' hR hn => ?_
  · simp only [List.mem_cons, List.not_mem_nil, or_false] at hp
    k_extra "g"
    rcases hp with rfl | rfl <;> k_extra "h"
    · exact hz
    · exact hm
  · obtain ⟨_, rfl, u, rfl⟩ := hR
    exact ret u h' tk' F' N'
end
theorem light_at {fz : Led} {vs : List Value} {ns : List Nat} (h : PySem.Paired (LightAt fz) vs ns) : ∀ (i : Nat) (v : Value), vs[i]? = some v → ∃ n, ns[i]? = some n ∧ LightAt fz v n := by
  induction h with
  | nil => intro i v hv; simp at hv
  | cons q r ih =>
    intro i v hv
    cases i with
    | zero => exact ⟨_, rfl, by simpa using (Option.some.inj hv) ▸ q⟩
    | succ i => simpa using ih i v (by simpa using hv)
end
end
section
open L_P L_R L_T2
section
variable (prog : Program) (w : World) (loose : List Str) (mean : ExcName → Option Value) (mg mb : Str → Option Value)
namespace tog_con
noncomputable section
def Claim9 (prog : Program) (w : World) (loose : List Str) (mean : ExcName → Option Value) (mg mb : Str → Option Value) (z la : Addr) (oz : Obj) (lts : List Value) (cc : List Nat) (n : Nat) (fz : Led) : Prop := ∀ (hP : PySem.Paired (LightAt fz) lts cc) (hn : lts.length ≤ 6), Con prog w loose mean mg mb 335 160 196 [.ref la] ((z, oz) :: (la, W.listOf lts.toArray n) :: fz) []
      (fun r mu' nw => mu' = [] ∧ nw = [] ∧ ∃ t', r = .int ((cc.sum % 6 : Nat) : Int) t')
abbrev T9 : Type := ((((Program × World) × ((List Str) × (ExcName → Option Value))) × (((Str → Option Value) × (Str → Option Value)) × Addr)) × (((Addr × Obj) × (List Value)) × (((List Nat) × Nat) × Led)))
def U9 (t : T9) : Prop := Claim9 t.1.1.1.1 t.1.1.1.2 t.1.1.2.1 t.1.1.2.2 t.1.2.1.1 t.1.2.1.2 t.1.2.2 t.2.1.1.1 t.2.1.1.2 t.2.1.2 t.2.2.1.1 t.2.2.1.2 t.2.2.2
@[irreducible] def v9 : T9 := ch9 (by k_extra "NE") U9
theorem spec9 : U9 v9 → ∀ t, U9 t := by with_unfolding_all exact sp9 _ U9
theorem core9 : U9 v9 := by
  refine (let prog := v9.1.1.1.1; let w := v9.1.1.1.2; let loose := v9.1.1.2.1; let mean := v9.1.1.2.2; let mg := v9.1.2.1.1; let mb := v9.1.2.1.2; let z := v9.1.2.2; let la := v9.2.1.1.1; let oz := v9.2.1.1.2; let lts := v9.2.1.2; let cc := v9.2.2.1.1; let n := v9.2.2.1.2; let fz := v9.2.2.2; (?_ : Claim9 prog w loose mean mg mb z la oz lts cc n fz))
  clear_value prog w loose mean mg mb z la oz lts cc n fz
  intro hP hn
  k_extra "CON"
  k_extra "TOIT"
  rename_i l0 h1 l10 h2 F1 N9
  clear N1
  have hlen := hP.length
  refine owit_list (vs := lts) (ax := la) (c := n) (Dr := fun d => d = s.drawn) (fun i m led => ∃ lc t0 t1 t2 n', m (Str.ofString "light") = some (.ref lc) ∧ led = (lc, lightObj ((cc.take i).sum % 6) t0 t1 t2 n') :: (z, oz) :: (la, W.listOf lts.toArray n) :: fz) rfl F1 N9 (mem_ix 2 rfl) (by omega) rfl ?hJ ?turn ?fin
  case hJ => exact ⟨_, _, _, _, _, rfl, rfl⟩
  case turn =>
    intro i x h tk dr m' led I it hx hi hdr F2 N2 off hIl hS hJ
    refine ex_5 hJ ?_; clear hJ; intro lc t0 t1 t2 n' hJ
    refine and_2 hJ ?_; clear hJ; intro e1 hled
    rw [hled] at N2 off
    (try rw [hled] at hIl)
    clear hled
    subst hdr
    have F3 := fr_know F2 e1
    clear F2 e1 F1 N9 hS
    k_lt hIl
    k_extra "g"
    refine ex_1 (light_at hP i x hx) fun c k_ => and_3 k_ fun hc hc6 k_ => ex_5 k_ fun ax v0 v1 v2 nx k_ => and_2 k_ fun r1_ hmx => ?_
    repeat clear k_
    subst r1_
    k_extra "h"
    have hcur : (cc.take i).sum % 6 < 6 := Nat.mod_lt _ (by decide)
    have hnx : ((cc.take i).sum % 6 + c) % 6 = (cc.take (i + 1)).sum % 6 := by
      rw [take_next hc, List.sum_append]
      simp
    generalize (cc.take i).sum % 6 = cur at *
    (try dsimp only)
    (first | (refine opq_turn ?_; intro QT9 hT9) | (refine opq_V ?_; intro QT9 hT9))
    k_extra "STEPSD"
    rename News g' L' _ _ => NB
    rw [hnx] at NB
    rename_i h9 t9 u9 h8 t8 D9 w0 w1 w2 n9 h7 t7 lD h6 F9
    exact exI_5 _ _ _ _ ((D9, lightObj _ w0 w1 w2 n9) :: (z, oz) :: (la, W.listOf lts.toArray n) :: fz) ⟨rfl, rfl, F9, List.forall_mem_cons.mpr ⟨NB _ (.tail _ (.head _)), List.forall_mem_cons.mpr ⟨NB _ (.head _), fun p hp => NB p (mem_dr 3 hp)⟩⟩, ⟨by show @Ne Nat _ _; omega, off.2⟩, ⟨n, mem_ix 2 rfl⟩, _, _, _, _, _, rfl, rfl⟩
  case fin =>
    intro h tk dr m' led hdr F2 N2 hS hJ
    refine ex_5 hJ ?_; clear hJ; intro lc t0 t1 t2 n' hJ
    refine and_2 hJ ?_; clear hJ; intro e1 hled
    rw [hled] at N2
    clear hled
    subst hdr
    have F3 := fr_know F2 e1
    clear F2 e1 F1 N9 hS
    have hcur : (cc.take lts.length).sum % 6 < 6 := Nat.mod_lt _ (by decide)
    have hall : cc.take lts.length = cc := List.take_of_length_le (by omega)
    rw [hall] at hcur N2
    (try dsimp only)
    k_extra "STEPSD"
    k_extra "LV"
    refine end_pick [] [] ⟨rfl, rfl, _, rfl⟩ (fun p hp => .tail _ hp) ?_ ?_ ?_
    · exact List.forall_mem_nil _
    · exact List.forall_mem_nil _
    · exact trivial
end
end tog_con
theorem tog_con (z la : Addr) (oz : Obj) (lts : List Value) (cc : List Nat) (n : Nat) (fz : Led) (hP : PySem.Paired (LightAt fz) lts cc) (hn : lts.length ≤ 6) :
    Con prog w loose mean mg mb 335 160 196 [.ref la] ((z, oz) :: (la, W.listOf lts.toArray n) :: fz) []
      (fun r mu' nw => mu' = [] ∧ nw = [] ∧ ∃ t', r = .int ((cc.sum % 6 : Nat) : Int) t') := ((tog_con.spec9 tog_con.core9 ((((prog, w), (loose, mean)), ((mg, mb), z)), (((la, oz), lts), ((cc, n), fz))) : tog_con.Claim9 prog w loose mean mg mb z la oz lts cc n fz)) hP hn
end
end
section
section
variable (prog : Program) (w : World) (loose : List Str) (mean : ExcName → Option Value) (mg mb : Str → Option Value)
theorem valueAt_stored {kvs : List (Int × Value)} {k k' : Int} {v : Value} : valueAt (stored kvs k v) k' = if k' = k then some v else valueAt kvs k' := by
  unfold valueAt stored
  by_cases h : kvs.any (fun kv => kv.1 = k) = true
  · rw [if_pos h]
    induction kvs with
    | nil => simp at h
    | cons q r ih =>
      by_cases hq : q.1 = k
      · subst hq
        by_cases hk : k' = q.1
        · subst hk; simp
        · rw [if_neg hk]
          simp only [List.map_cons, if_true, List.find?_cons, decide_eq_true_eq]
          rw [show decide (q.1 = k') = false from decide_eq_false (fun e => hk e.symm)]
          dsimp only
          clear ih h
          induction r with
          | nil => rfl
          | cons a r ih =>
            simp only [List.map_cons, List.find?_cons]
            by_cases ha : a.1 = q.1
            · rw [if_pos ha, ha, show decide (q.1 = k') = false from decide_eq_false (fun e => hk e.symm)]
              exact ih
            · rw [if_neg ha]
              by_cases hb : a.1 = k'
              · rw [show decide (a.1 = k') = true from decide_eq_true hb]
              · rw [show decide (a.1 = k') = false from decide_eq_false hb]
                exact ih
      · have h' : r.any (fun kv => kv.1 = k) = true := by simpa [hq] using h
        have := ih h'
        simp only [List.map_cons, if_neg hq, List.find?_cons]
        by_cases hb : q.1 = k'
        · have hk : k' ≠ k := fun e => hq (hb.trans e)
          rw [show decide (q.1 = k') = true from decide_eq_true hb, if_neg hk]
        · rw [show decide (q.1 = k') = false from decide_eq_false hb]
          exact this
  · rw [if_neg h]
    have hn : kvs.find? (fun kv => kv.1 = k) = none := by
      rw [List.find?_eq_none]
      intro x hx
      simp only [List.any_eq_true, not_exists, not_and] at h
      exact h x hx
    rw [List.find?_append]
    by_cases hk : k' = k
    · subst hk
      rw [hn]
      simp
    · rw [if_neg hk]
      cases kvs.find? (fun kv => kv.1 = k') with
      | some x => rfl
      | none => simp [Ne.symm hk]
theorem stored_length {kvs : List (Int × Value)} {k : Int} {v : Value} : (stored kvs k v).length ≤ kvs.length + 1 := by
  unfold stored
  split <;> simp
def At (xs : List Int) (u p v : Int) (k j : Nat) : Prop := k < xs.length ∧ j < 6 ∧ (xs.getD k 0 * u ^ j).fmod p = v
def TabHas (kvs : List (Int × Value)) (ts : Led) (xs : List Int) (u p v : Int) : Prop := ∃ T t1 t2 k j, valueAt kvs v = some (.ref T) ∧ (T, tup2 ((k : Nat) : Int) ((j : Nat) : Int) t1 t2) ∈ ts ∧ At xs u p v k j
def TabInv (kvs : List (Int × Value)) (ts : Led) (xs : List Int) (u p : Int) (i j : Nat) : Prop := ∀ k' j', k' < i ∨ (k' = i ∧ j' < j) → k' < xs.length → j' < 6 → TabHas kvs ts xs u p ((xs.getD k' 0 * u ^ j').fmod p)
theorem tab_step {kvs : List (Int × Value)} {ts : Led} {xs : List Int} {u p : Int} {i j : Nat} {T : Addr} {t1 t2 : Tok} (h : TabInv kvs ts xs u p i j) (hi : i < xs.length) (hj : j < 6) :
    TabInv (stored kvs ((xs.getD i 0 * u ^ j).fmod p) (.ref T)) ((T, tup2 (i : Int) (j : Int) t1 t2) :: ts) xs u p i (j + 1) := by
  intro k' j' hd hk hj'
  by_cases e : (xs.getD k' 0 * u ^ j').fmod p = (xs.getD i 0 * u ^ j).fmod p
  · exact ⟨T, t1, t2, i, j, by rw [valueAt_stored, if_pos e], .head _, hi, hj, e.symm⟩
  · have hd' : k' < i ∨ (k' = i ∧ j' < j) := by
      k_extra "g"
      rcases hd with hd | ⟨rfl, hd⟩ <;> k_extra "h"
      · exact .inl hd
      · refine .inr ⟨rfl, ?_⟩
        k_extra "g"
        rcases Nat.lt_or_ge j' j with q | q <;> k_extra "h"
        · exact q
        · obtain rfl : j' = j := by omega
          exact absurd rfl e
    k_extra "g"
    obtain ⟨T', a, b, k2, j2, h1, h2, h3⟩ := h k' j' hd' hk hj'
    k_extra "h"
    exact ⟨T', a, b, k2, j2, by rw [valueAt_stored, if_neg e]; exact h1, .tail _ h2, h3⟩
theorem tab_row {kvs : List (Int × Value)} {ts : Led} {xs : List Int} {u p : Int} {i : Nat} (h : TabInv kvs ts xs u p i 6) : TabInv kvs ts xs u p (i + 1) 0 := by
  intro k' j' hd hk hj'
  refine h k' j' ?_ hk hj'
  k_extra "g"
  rcases hd with hd | ⟨_, hd⟩ <;> k_extra "h"
  · rcases Nat.lt_or_ge k' i with q | q
    · exact .inl q
    · exact .inr ⟨by omega, hj'⟩
  · omega
theorem tab_nil {ts : Led} {xs : List Int} {u p : Int} : TabInv [] ts xs u p 0 0 := by
  intro k' j' hd
  omega
end
end
section
theorem L_T_TB.ln9_T_TB : True := trivial
open L_P L_R L_T2 L_T_TB
section
variable (prog : Program) (w : World) (loose : List Str) (mean : ExcName → Option Value) (mg mb : Str → Option Value)
theorem kw9_TB_1 : True := by
  (k_with "lT_TB" => fail_if_success (fail_if_success (have h9 := ln9_T_TB)))
  (k_with "setItem ref int ref" => (k_extra "lT_TB"; (k_here; k_dflt (refine' kda_set (knd := intKind _ _) ?F ?N ?U ?hd ?hk ?hz ?_; (case F => k_asm); (case N => k_asm); (case U => k_extra "mU"; k_updF); (case hd => with_reducible assumption); (case hk => exact intKind_is _ _ _ _); (case hz => (rw [PySem.sizeLine_eq]; omega)); k_whole); walk_at "TN")))
  trivial
end
namespace table_con
noncomputable section
def Claim9 (prog : Program) (w : World) (loose : List Str) (mean : ExcName → Option Value) (mg mb : Str → Option Value) (z ss : Addr) (oz : Obj) (p u : Int) (vs : List Value) (xs : List Int) (n : Nat) (t t' : Tok) : Prop := ∀ (hp : 12 < p ∧ p < 38) (hu : 3 < u ∧ u < 12) (hI : IntsAre vs xs) (hl : xs.length ≤ 6) (hx : ∀ x ∈ xs, 1 ≤ x ∧ x ≤ 36) (hsz : @LT.lt Nat _ ss z), Con prog w loose mean mg mb 335 160 165 [.int p t, .int u t', .ref ss] [(z, oz), (ss, W.listOf vs.toArray n)] []
      (fun r mu' nw => ∃ d o kvs ts, r = .ref d ∧ mu' = [] ∧ nw = (d, o) :: ts ∧ o.IsDictOf (intKind prog w) kvs ∧ TabInv kvs ts xs u p xs.length 0 ∧ @LT.lt Nat _ z d ∧ ∀ q ∈ ts, @LT.lt Nat _ z q.1)
abbrev T9 : Type := ((((Program × World) × ((List Str) × (ExcName → Option Value))) × (((Str → Option Value) × (Str → Option Value)) × (Addr × Addr))) × (((Obj × Int) × (Int × (List Value))) × (((List Int) × Nat) × (Tok × Tok))))
def U9 (t : T9) : Prop := Claim9 t.1.1.1.1 t.1.1.1.2 t.1.1.2.1 t.1.1.2.2 t.1.2.1.1 t.1.2.1.2 t.1.2.2.1 t.1.2.2.2 t.2.1.1.1 t.2.1.1.2 t.2.1.2.1 t.2.1.2.2 t.2.2.1.1 t.2.2.1.2 t.2.2.2.1 t.2.2.2.2
@[irreducible] def v9 : T9 := ch9 (by k_extra "NE") U9
theorem spec9 : U9 v9 → ∀ t, U9 t := by with_unfolding_all exact sp9 _ U9
def prog := v9.1.1.1.1
def w := v9.1.1.1.2
def loose := v9.1.1.2.1
def mean := v9.1.1.2.2
def mg := v9.1.2.1.1
def mb := v9.1.2.1.2
def z := v9.1.2.2.1
def ss := v9.1.2.2.2
def oz := v9.2.1.1.1
def p := v9.2.1.1.2
def u := v9.2.1.2.1
def vs := v9.2.1.2.2
def xs := v9.2.2.1.1
def n := v9.2.2.1.2
def t := v9.2.2.2.1
def t' := v9.2.2.2.2
theorem core9 : Claim9 prog w loose mean mg mb z ss oz p u vs xs n t t' := by
  intro hp hu hI hl hx hsz
  have hvl := hI.length
  k_extra "CON"
  k_extra "TOIT"
  rename_i d h1 o lo hso fso hio fio ld h2 R r1 r2 h3 tk3 F1 N9 lR
  clear N1 hso fso fio
  have hnl : (xs.length : Int) - 0 = ((xs.length : Nat) : Int) := by omega
  refine owit_range (n := xs.length) (R := R) (Dr := fun d => d = s.drawn) (fun i m led => ∃ rO o kvs ts tp tu, m (Str.ofString "table") = some (.ref d) ∧ m (Str.ofString "prime") = some (.int p tp) ∧ m (Str.ofString "unit") = some (.int u tu) ∧ m (Str.ofString "speakers") = some (.ref ss) ∧
      led = (R, rO) :: (d, o) :: (z, oz) :: (ss, W.listOf vs.toArray n) :: ts ∧ o.IsDictOf (intKind prog w) kvs ∧ kvs.length ≤ 6 * i ∧ TabInv kvs ts xs u p i 0 ∧ AllNe d ts ∧ (∀ q ∈ ts, @LT.lt Nat _ z q.1)) rfl F1 N9 (.head _) hnl (by omega) (by omega) rfl ?hJ ?turn ?fin
  case hJ => exact exI_6 _ _ [] [] _ _ ⟨rfl, rfl, rfl, rfl, rfl, hio, by simp, tab_nil, trivial, fun _ h => nomatch h⟩
  case turn =>
    intro i tx h tk dr m' led I it hi hdr F2 N2 off hIl hJ
    refine ex_6 hJ ?_; clear hJ; intro rO o kvs ts tp tu hJ
    refine and_10 hJ ?_; clear hJ; intro e1 e2 e3 e4 hled hdi hkl hti hts htg
    rw [hled] at N2 off
    (try rw [hled] at hIl)
    clear hled
    subst hdr
    have F3 := fr_know4 F2 e1 e2 e3 e4
    clear F2 e1 e2 e3 e4 F1 N9 hio
    k_lt hIl
    rw [Int.zero_add]
    have off2 : AllNe I ts := off.2.2.2.2
    (try dsimp only)
    (first | (refine opq_turn ?_; intro QT9 hT9) | (refine opq_V ?_; intro QT9 hT9))
    k_extra "TOIT"
    rename_i h4 R2 r3 r4 h5 tk5 F5 N5 lR2
    have hxi : xs.getD i 0 ∈ xs := by
      rw [List.getD_eq_getElem?_getD, List.getElem?_eq_getElem hi]
      exact List.getElem_mem hi
    have hxb := hx _ hxi
    have hxt : xs.getD ((i : Nat) : Int).toNat 0 = xs.getD i 0 := rfl
    refine owit_range (n := 6) (R := R2) (Dr := fun d => d = s.drawn) (fun j m led => ∃ rO2 o kvs ts tp tu tk, m (Str.ofString "table") = some (.ref d) ∧ m (Str.ofString "prime") = some (.int p tp) ∧ m (Str.ofString "unit") = some (.int u tu) ∧ m (Str.ofString "speakers") = some (.ref ss) ∧ m (Str.ofString "k") = some (.int (i : Int) tk) ∧
      led = (R2, rO2) :: (I, it) :: (R, rO) :: (d, o) :: (z, oz) :: (ss, W.listOf vs.toArray n) :: ts ∧ o.IsDictOf (intKind prog w) kvs ∧ kvs.length ≤ 6 * i + j ∧ TabInv kvs ts xs u p i j ∧ AllNe d ts ∧ AllNe I ts ∧ (∀ q ∈ ts, @LT.lt Nat _ z q.1)) rfl F5 N5 (.head _) (by decide) (by omega) (by omega) rfl ?hJ2 ?turn2 ?fin2
    case hJ2 => exact exI_7 _ _ kvs ts _ _ _ ⟨rfl, rfl, rfl, rfl, rfl, rfl, hdi, hkl, hti, hts, off2, htg⟩
    case turn2 =>
      intro j tj h tk dr m' led I2 it2 hj hdr F2 N2 off3 hIl2 hJ
      refine ex_7 hJ ?_; clear hJ; intro rO2 o kvs ts tp tu tkk hJ
      refine and_12 hJ ?_; clear hJ; intro e1 e2 e3 e4 e5 hled hdi hkl hti hts hts2 htg
      rw [hled] at N2 off3
      (try rw [hled] at hIl2)
      clear hled
      subst hdr
      have F3 := fr_know5 F2 e1 e2 e3 e4 e5
      clear F2 e1 e2 e3 e4 e5 F5 N5
      k_lt hIl2
      rw [Int.zero_add]
      have hpw : (0 : Int) ≤ u ^ ((j : Nat) : Int).toNat ∧ u ^ ((j : Nat) : Int).toNat ≤ 161051 := by
        exact pow_bd (show 3 < u ∧ u < 12 by assumption) hj
      (try dsimp only)
      (first | (refine opq_turn ?_; intro QT9 hT9) | (refine opq_V ?_; intro QT9 hT9))
      k_extra "STEPSD"
      rename_i h9 t9 D9 h8 lD t8 h7 oN F9 N9 hdN
      refine exI_5 _ _ _ _ ((R2, rO2) :: (I, it) :: (R, rO) :: (d, oN) :: (z, oz) :: (ss, W.listOf vs.toArray n) :: (D9, tup2 (i : Int) (j : Int) tkk tj) :: ts) ⟨rfl, rfl, F9, ?_, ⟨off3.1, off3.2.1, off3.2.2.1, off3.2.2.2.1, off3.2.2.2.2.1, off3.2.2.2.2.2.1, (by show @Ne Nat _ _; omega), off3.2.2.2.2.2.2⟩, trivial, rO2, oN, _, (D9, tup2 (i : Int) (j : Int) tkk tj) :: ts, tp, tu, tkk, rfl, rfl, rfl, rfl, rfl, rfl, hdN, Nat.le_trans stored_length (by omega), tab_step hti hi hj, ⟨(by show @Ne Nat _ _; omega), hts⟩, ⟨(by show @Ne Nat _ _; omega), hts2⟩, List.forall_mem_cons.mpr ⟨(by show @LT.lt Nat _ _ _; omega), htg⟩⟩
      repeat (refine List.forall_mem_cons.mpr ⟨N9 _ (by k_mem), ?_⟩)
      exact fun p hp => N9 p (mem_dr 8 hp)
    case fin2 =>
      intro h tk dr m' led hdr F2 N2 hJ
      refine ex_7 hJ ?_; clear hJ; intro rO2 o kvs ts tp tu tkk hJ
      refine and_12 hJ ?_; clear hJ; intro e1 e2 e3 e4 e5 hled hdi hkl hti hts hts2 htg
      rw [hled] at N2
      clear hled
      subst hdr
      have F3 := fr_know5 F2 e1 e2 e3 e4 e5
      clear F2 e1 e2 e3 e4 e5 F5 N5
      (try dsimp only)
      k_extra "STEPSD"
      exact exI_5 _ _ _ _ ((R, rO) :: (d, o) :: (z, oz) :: (ss, W.listOf vs.toArray n) :: ts) ⟨rfl, rfl, by assumption, fun p hp => N2 p (.tail _ hp), ⟨off.1, off.2.1, off.2.2.1, off.2.2.2.1, hts2⟩, trivial, rO, o, kvs, ts, _, _, rfl, rfl, rfl, rfl, rfl, hdi, by omega, tab_row hti, hts, htg⟩
  case fin =>
    intro h tk dr m' led hdr F2 N2 hJ
    refine ex_6 hJ ?_; clear hJ; intro rO o kvs ts tp tu hJ
    refine and_10 hJ ?_; clear hJ; intro e1 e2 e3 e4 hled hdi hkl hti hts htg
    rw [hled] at N2
    clear hled
    subst hdr
    have F3 := fr_know4 F2 e1 e2 e3 e4
    clear F2 e1 e2 e3 e4 F1 N9 hio
    (try dsimp only)
    k_extra "STEPSD"
    (try dsimp only)
    k_extra "LV"
    refine end_pick [] ((d, o) :: ts) (exI_4 d o kvs ts ⟨rfl, rfl, rfl, hdi, hti, ld.1, htg⟩) ?_ (List.forall_mem_nil _) ?_ ?_
    · k_extra "SUBS"
    · exact List.forall_mem_cons.mpr ⟨.tail _ (.head _), fun p hp => mem_dr 4 hp⟩
    · have key : ∀ q ∈ (d, o) :: ts, @LT.lt Nat _ z q.1 := List.forall_mem_cons.mpr ⟨ld.1, htg⟩
      refine nwNe_of fun q hq r hr => ?_
      have := key q hq
      simp only [List.append_nil, List.mem_cons, List.not_mem_nil, or_false] at hr
      k_extra "g"
      rcases hr with rfl | rfl <;> k_extra "h"
      · show @Ne Nat _ _
        omega
      · show @Ne Nat _ _
        omega
end
end table_con
section
variable (prog : Program) (w : World) (loose : List Str) (mean : ExcName → Option Value) (mg mb : Str → Option Value)
theorem table_con (z ss : Addr) (oz : Obj) (p u : Int) (vs : List Value) (xs : List Int) (n : Nat) (t t' : Tok) (hp : 12 < p ∧ p < 38) (hu : 3 < u ∧ u < 12) (hI : IntsAre vs xs) (hl : xs.length ≤ 6) (hx : ∀ x ∈ xs, 1 ≤ x ∧ x ≤ 36) (hsz : @LT.lt Nat _ ss z) :
    Con prog w loose mean mg mb 335 160 165 [.int p t, .int u t', .ref ss] [(z, oz), (ss, W.listOf vs.toArray n)] []
      (fun r mu' nw => ∃ d o kvs ts, r = .ref d ∧ mu' = [] ∧ nw = (d, o) :: ts ∧ o.IsDictOf (intKind prog w) kvs ∧ TabInv kvs ts xs u p xs.length 0 ∧ @LT.lt Nat _ z d ∧ ∀ q ∈ ts, @LT.lt Nat _ z q.1) := ((table_con.spec9 table_con.core9 ((((prog, w), (loose, mean)), ((mg, mb), (z, ss))), (((oz, p), (u, vs)), ((xs, n), (t, t')))) : table_con.Claim9 prog w loose mean mg mb z ss oz p u vs xs n t t')) hp hu hI hl hx hsz
end
end
section
section
variable (prog : Program) (w : World) (loose : List Str) (mean : ExcName → Option Value) (mg mb : Str → Option Value)
def PlaceAt (ts : Led) (xs : List Int) (u p v : Int) (y : Value) : Prop := ∃ T t1 t2 k j, y = .ref T ∧ (T, tup2 ((k : Nat) : Int) ((j : Nat) : Int) t1 t2) ∈ ts ∧ At xs u p v k j
end
end
section
open L_P L_R L_T2 L_L L_U L_W
section
variable (prog : Program) (w : World) (loose : List Str) (mean : ExcName → Option Value) (mg mb : Str → Option Value)
namespace row_con
noncomputable section
def Claim9 (prog : Program) (w : World) (loose : List Str) (mean : ExcName → Option Value) (mg mb : Str → Option Value) (z c1 c2 d ss : Addr) (oz oc1 oc2 od : Obj) (p u x : Int) (kvs : List (Int × Value)) (ts : Led) (vs : List Value) (xs : List Int) (n : Nat) (t t' : Tok) : Prop := ∀ (hp : PrimeOk p) (hI : IntsAre vs xs) (hl : xs.length ≤ 6) (hd : od.IsDictOf (intKind prog w) kvs) (hz : @LT.lt Nat _ 66 z) (hl1 : @LE.le Nat _ c1 z) (hl2 : @LE.le Nat _ c2 z) (ho1 : CodeAs oc1 QI) (ho2 : CodeAs oc2 QD) (hxb : - 20000 ≤ x ∧ x ≤ 20000) (hyb : ∀ y ∈ xs, 1 ≤ y ∧ y ≤ 36) (hbd : ∀ y ∈ xs, - 2 ^ 20 ≤ x * y ∧ x * y < 2 ^ 20) (hcov : ∀ y ∈ xs, TabHas kvs ts xs u p ((x * y).fmod p)), Con prog w loose mean mg mb 335 160 189 [.int p t, .ref d, .ref ss, .int x t'] ((z, oz) :: (c1, oc1) :: (59, tabI2 c1) :: (c2, oc2) :: (66, tabD2 c2) :: (d, od) :: (ss, W.listOf vs.toArray n) :: ts) []
      (fun r mu' nw => ∃ D ys, r = .ref D ∧ mu' = [] ∧ nw = [(D, LCg.lst ys)] ∧ @LT.lt Nat _ z D ∧ PySem.Paired (fun y v => PlaceAt ts xs u p ((x * v).fmod p) y) ys xs)
abbrev T9 : Type := (((((Program × World) × ((List Str) × (ExcName → Option Value))) × (((Str → Option Value) × (Str → Option Value)) × Addr)) × (((Addr × Addr) × Addr) × ((Addr × Obj) × Obj))) × ((((Obj × Obj) × Int) × ((Int × Int) × (List (Int × Value)))) × (((Led × (List Value)) × (List Int)) × ((Nat × Tok) × Tok))))
def U9 (t : T9) : Prop := Claim9 t.1.1.1.1.1 t.1.1.1.1.2 t.1.1.1.2.1 t.1.1.1.2.2 t.1.1.2.1.1 t.1.1.2.1.2 t.1.1.2.2 t.1.2.1.1.1 t.1.2.1.1.2 t.1.2.1.2 t.1.2.2.1.1 t.1.2.2.1.2 t.1.2.2.2 t.2.1.1.1.1 t.2.1.1.1.2 t.2.1.1.2 t.2.1.2.1.1 t.2.1.2.1.2 t.2.1.2.2 t.2.2.1.1.1 t.2.2.1.1.2 t.2.2.1.2 t.2.2.2.1.1 t.2.2.2.1.2 t.2.2.2.2
@[irreducible] def v9 : T9 := ch9 (by k_extra "NE") U9
theorem spec9 : U9 v9 → ∀ t, U9 t := by with_unfolding_all exact sp9 _ U9
theorem core9 : U9 v9 := by
  refine (let prog := v9.1.1.1.1.1; let w := v9.1.1.1.1.2; let loose := v9.1.1.1.2.1; let mean := v9.1.1.1.2.2; let mg := v9.1.1.2.1.1; let mb := v9.1.1.2.1.2; let z := v9.1.1.2.2; let c1 := v9.1.2.1.1.1; let c2 := v9.1.2.1.1.2; let d := v9.1.2.1.2; let ss := v9.1.2.2.1.1; let oz := v9.1.2.2.1.2; let oc1 := v9.1.2.2.2; let oc2 := v9.2.1.1.1.1; let od := v9.2.1.1.1.2; let p := v9.2.1.1.2; let u := v9.2.1.2.1.1; let x := v9.2.1.2.1.2; let kvs := v9.2.1.2.2; let ts := v9.2.2.1.1.1; let vs := v9.2.2.1.1.2; let xs := v9.2.2.1.2; let n := v9.2.2.2.1.1; let t := v9.2.2.2.1.2; let t' := v9.2.2.2.2; (?_ : Claim9 prog w loose mean mg mb z c1 c2 d ss oz oc1 oc2 od p u x kvs ts vs xs n t t'))
  clear_value prog w loose mean mg mb z c1 c2 d ss oz oc1 oc2 od p u x kvs ts vs xs n t t'
  intro hp hI hl hd hz hl1 hl2 ho1 ho2 hxb hyb hbd hcov
  have hvl := hI.length
  k_extra "CONC"
  k_extra "TOLC"
  rename_i o1 o2 o3 d1 d2 d3
  clear N1
  k_extra "g"
  obtain ⟨p1, p2, p3, p4⟩ := primeOk_bits hp
  k_extra "h"
  refine lc_list (vs := vs) (ax := ss) (c := n) (Dr := fun d => d = s.drawn) (fun i ys led => led = (L' + 1 + 1 + 1, o1) :: (L' + 1 + 1, o2) :: (L' + 1, o3) :: (z, oz) :: (c1, oc1) :: (59, tabI2 c1) :: (c2, oc2) :: (66, tabD2 c2) :: (d, od) :: (ss, W.listOf vs.toArray n) :: ts ∧ PySem.Paired (fun y v => PlaceAt ts xs u p ((x * v).fmod p) y) ys (xs.take i)) rfl (by decide) rfl rfl F' (led0 := (L' + 1 + 1 + 1, o1) :: (L' + 1 + 1, o2) :: (L' + 1, o3) :: (z, oz) :: (c1, oc1) :: (59, tabI2 c1) :: (c2, oc2) :: (66, tabD2 c2) :: (d, od) :: (ss, W.listOf vs.toArray n) :: ts) N' (by repeat' (first | exact .head _ | apply List.Mem.tail)) (by omega) rfl ⟨rfl, .nil⟩ ?turn ?fin
  case turn =>
    intro i v ys led I oI C oC D m₂ h tk dr E' hv hi hdr hyl hC hx F2 N2 off hne hlt hIl hS hJ
    k_extra "g"
    obtain ⟨rfl, hys⟩ := hJ
    k_extra "h"
    subst hdr
    clear hS
    k_lt hIl
    k_extra "g"
    obtain ⟨y, ty, rfl, hy⟩ := ints_get hI i v hv
    refine ex_5 (hcov y (List.mem_of_getElem? hy)) fun T t1 t2 k j k_ => and_3 k_ fun hl hmT hAt => ?_
    repeat clear k_
    k_extra "h"
    have hy2 := hyb y (List.mem_of_getElem? hy)
    have hb := hbd y (List.mem_of_getElem? hy)
    have CC := idm_2 prog w loose mean mg mb hp hb
    (first | (refine opq_turn ?_; intro QT9 hT9) | (refine opq_V ?_; intro QT9 hT9))
    k_extra "STEPSD"
    rename News g' L' _ _ => NB
    exact exI_4 _ _ _ _ ⟨rfl, rfl, by assumption, fun p hp => NB p (.tail _ hp), off, ⟨n, by repeat' (first | exact .head _ | apply List.Mem.tail)⟩, rfl, by rw [take_next hy]; exact hys.snoc ⟨T, t1, t2, k, j, rfl, hmT, hAt⟩⟩
  case fin =>
    intro D h tk dr ys led hbl hdr hyl F2 N2 hne hS hJ
    k_extra "g"
    obtain ⟨rfl, hys⟩ := hJ
    k_extra "h"
    subst hdr
    have hbl2 := hbl
    k_lt hbl
    rw [List.take_of_length_le (by omega)] at hys
    clear hS
    k_extra "LV"
    refine end_pick [] [(D, LCg.lst ys)] ⟨D, ys, rfl, rfl, rfl, by omega, hys⟩ (fun p hp => mem_dr 4 hp) (List.forall_mem_nil _) ?_ ?_
    · k_extra "SUBS"
    · refine nwNe_of fun q hq r hr => ?_
      rw [List.mem_singleton.mp hq]
      rw [List.append_nil] at hr
      refine Nat.ne_of_lt (hbl2 r ?_)
      exact mem_dr 3 hr
end
end row_con
theorem row_con (z c1 c2 d ss : Addr) (oz oc1 oc2 od : Obj) (p u x : Int) (kvs : List (Int × Value)) (ts : Led) (vs : List Value) (xs : List Int) (n : Nat) (t t' : Tok) (hp : PrimeOk p) (hI : IntsAre vs xs) (hl : xs.length ≤ 6) (hd : od.IsDictOf (intKind prog w) kvs) (hz : @LT.lt Nat _ 66 z) (hl1 : @LE.le Nat _ c1 z) (hl2 : @LE.le Nat _ c2 z) (ho1 : CodeAs oc1 QI) (ho2 : CodeAs oc2 QD)
    (hxb : - 20000 ≤ x ∧ x ≤ 20000) (hyb : ∀ y ∈ xs, 1 ≤ y ∧ y ≤ 36) (hbd : ∀ y ∈ xs, - 2 ^ 20 ≤ x * y ∧ x * y < 2 ^ 20) (hcov : ∀ y ∈ xs, TabHas kvs ts xs u p ((x * y).fmod p)) :
    Con prog w loose mean mg mb 335 160 189 [.int p t, .ref d, .ref ss, .int x t'] ((z, oz) :: (c1, oc1) :: (59, tabI2 c1) :: (c2, oc2) :: (66, tabD2 c2) :: (d, od) :: (ss, W.listOf vs.toArray n) :: ts) []
      (fun r mu' nw => ∃ D ys, r = .ref D ∧ mu' = [] ∧ nw = [(D, LCg.lst ys)] ∧ @LT.lt Nat _ z D ∧ PySem.Paired (fun y v => PlaceAt ts xs u p ((x * v).fmod p) y) ys xs) := ((row_con.spec9 row_con.core9 (((((prog, w), (loose, mean)), ((mg, mb), z)), (((c1, c2), d), ((ss, oz), oc1))), ((((oc2, od), p), ((u, x), kvs)), (((ts, vs), xs), ((n, t), t')))) : row_con.Claim9 prog w loose mean mg mb z c1 c2 d ss oz oc1 oc2 od p u x kvs ts vs xs n t t')) hp hI hl hd hz hl1 hl2 ho1 ho2 hxb hyb hbd hcov
end
end
section
theorem L_T_M2.ln9_T_M2 : True := trivial
open L_T_M2
section
variable (prog : Program) (w : World) (loose : List Str) (mean : ExcName → Option Value) (mg mb : Str → Option Value)
theorem fill2 : PySem.Challenge.rw_sh0047_01 = PySem.Challenge.rw_sh0047_01 ∧ kf.heap_1 = kf.heap_1 := by
  k_fill
  exact ⟨rfl, rfl⟩
theorem kw9_M2_1 : True := by
  (k_with "lT_M2" => fail_if_success (fail_if_success (have h9 := ln9_T_M2)))
  (k_with "getMethod ref" => (k_extra "lT_M2"; (k_here; (with_reducible show wpAny _ _ (getMethod (Value.ref _) (Str.ofString "read") _) _ _ _); k_dflt (refine' fn_methReadN ?k1 ?k2 ?k3 ?k4 ?_; (case k1 => k_asm); (case k2 => k_mem); (case k3 => k_mem); (case k4 => k_handed); k_whole); intro _)))
  trivial
section
variable {prog : Program} {w : World} {loose : List Str} {mean : ExcName → Option Value} {mg mb : Str → Option Value} {dp un : Nat} {big : Led} {g : Obj → Led} {x : Str} {Fn A i n : Nat} {rr : Led} {t tk : Tok}
  {gd : Option (List Code)} {cn : Str} {cs : Scope} {a : Addr} {ccd : Value} {cl : List (Str × Addr)} {outer : List Env} {A₀ : Around} {base h₀ : Heap} {L : Addr} {m : Str → Option Value} {s : Shared} {Q E : Value → Shared → Prop}
theorem read_use (C : ReadCon prog w loose mean mg mb x Fn A rr) (hi : i ≤ x.length) (hdp : dp ≤ 360) (hu : un ≤ 300) (B : Below A₀ base outer h₀) (F : Fr h₀ L s.heap m) (X : (kf.heap_1 w.params).In h₀) (N : News h₀ L s.heap big) (T : Top topProg loose mean mg mb h₀) (hk : cs.kind = .function)
    (hU : UpdF A (W.listOf #[.int i tk] n) big g) (hro : ∀ p ∈ rr, p ∈ big)
    (ret : ∀ t' tk' n' h' tk2, Fr h₀ L h' m → News h₀ L h' (g (W.listOf #[.int ((i : Int) + ((cutAt x i).length : Int)) tk'] n')) → Q (.str (cutAt x i) t') { s with heap := h', toks := tk2 }) :
    wpAny (model prog w) (ktrTop dp un gd cn cs L a ccd cl outer) (call (.ref Fn) [.int 1 t]) Q E s := by
  refine wpAny_call <| con_use1 (C i t tk n hi) hdp hu B F X N T hk hU hro (fun r o' more nw h' tk2 F' N' hR hn => ?_) fun r mu' nw hR => ?_
  · obtain ⟨rfl, t', tk', n', rfl, e⟩ := hR
    k_extra "g"
    obtain ⟨rfl, rfl⟩ := one_eq e
    k_extra "h"
    exact ret t' tk' n' h' tk2 F' N'
  · obtain ⟨_, t', tk', n', _, e⟩ := hR
    exact ⟨_, _, e⟩
end
theorem kw9_M2_2 : True := by
  (k_with "call ref" => (k_extra "lT_M2"; (k_here; k_dflt (refine' read_use (by assumption) (by assumption) (Nat.le_of_ble_eq_true rfl) (Nat.le_of_ble_eq_true rfl) ?k1 ?k2 ?k3 ?k4 ?k5 ?k6 ?k7 ?k8 ?_; (case k1 => k_asm); (case k2 => k_asm); (case k3 => k_asm); (case k4 => k_asm); (case k5 => k_asm); (case k6 => first | exact rfl | assumption); (case k7 => k_extra "mU"; k_updF); (case k8 => first | exact List.forall_mem_nil _ | kcf_all); k_whole); walk_at "TN"; (try dsimp only); (try k_fold))))
  trivial
namespace rchar_con
noncomputable section
def Claim9 (prog : Program) (w : World) (loose : List Str) (mean : ExcName → Option Value) (mg mb : Str → Option Value) (x : Str) (M S dS Fn c cA cT d P A : Addr) (fd : FuncData) (sl : Array (Option Value)) (fF : FuncData) (lF : Array (Option Value)) (oc oA oT : Obj) (h1 h2 h3 h4 h5 : Int) (t1 t2 t3 t4 t5 tl tw ti : Tok) (n4 : Nat) (ln : Int) (i : Nat) : Prop := ∀ (hi : i ≤ x.length) (hne : Chain10 cT cA A c Fn S dS d M P) (hRC : ReadCon prog w loose mean mg mb x Fn A [(Fn, fnObj none fF lF), (c, oc), (cA, oA), (cT, oT)]), Con prog w loose mean mg mb 358 290 120 [.ref M] [(M, instObj 137 d), (S, fnObj (some dS) fd sl), (dS, readDict h5 t5 Fn), (Fn, fnObj none fF lF), (c, oc), (cA, oA), (cT, oT)] [(d, machDict h1 h2 h3 h4 t1 t2 t3 t4 ln tl S tw P), (A, W.listOf #[.int i ti] n4)]
      (fun r mu' nw => nw = [] ∧ ∃ t' tl' ti' n4', r = .str (cutAt x i) t' ∧ mu' = [(d, machDict h1 h2 h3 h4 t1 t2 t3 t4 (if cutAt x i = Str.ofString "\n" then ln + 1 else ln) tl' S tw P), (A, W.listOf #[.int ((i : Int) + ((cutAt x i).length : Int)) ti'] n4')])
abbrev T9 : Type := ((((((Program × World) × (List Str)) × ((ExcName → Option Value) × (Str → Option Value))) × ((((Str → Option Value) × Str) × Addr) × (Addr × Addr))) × ((((Addr × Addr) × Addr) × (Addr × Addr)) × (((Addr × Addr) × FuncData) × ((Array (Option Value)) × FuncData)))) × ((((((Array (Option Value)) × Obj) × Obj) × (Obj × Int)) × (((Int × Int) × Int) × (Int × Tok))) × ((((Tok × Tok) × Tok) × (Tok × Tok)) × (((Tok × Tok) × Nat) × (Int × Nat)))))
def U9 (t : T9) : Prop := Claim9 t.1.1.1.1.1.1 t.1.1.1.1.1.2 t.1.1.1.1.2 t.1.1.1.2.1 t.1.1.1.2.2 t.1.1.2.1.1.1 t.1.1.2.1.1.2 t.1.1.2.1.2 t.1.1.2.2.1 t.1.1.2.2.2 t.1.2.1.1.1.1 t.1.2.1.1.1.2 t.1.2.1.1.2 t.1.2.1.2.1 t.1.2.1.2.2 t.1.2.2.1.1.1 t.1.2.2.1.1.2 t.1.2.2.1.2 t.1.2.2.2.1 t.1.2.2.2.2 t.2.1.1.1.1.1 t.2.1.1.1.1.2 t.2.1.1.1.2 t.2.1.1.2.1 t.2.1.1.2.2 t.2.1.2.1.1.1 t.2.1.2.1.1.2 t.2.1.2.1.2 t.2.1.2.2.1 t.2.1.2.2.2 t.2.2.1.1.1.1 t.2.2.1.1.1.2 t.2.2.1.1.2 t.2.2.1.2.1 t.2.2.1.2.2 t.2.2.2.1.1.1 t.2.2.2.1.1.2 t.2.2.2.1.2 t.2.2.2.2.1 t.2.2.2.2.2
@[irreducible] def v9 : T9 := ch9 (by k_extra "NE") U9
theorem spec9 : U9 v9 → ∀ t, U9 t := by with_unfolding_all exact sp9 _ U9
theorem core9 : U9 v9 := by
  refine (let prog := v9.1.1.1.1.1.1; let w := v9.1.1.1.1.1.2; let loose := v9.1.1.1.1.2; let mean := v9.1.1.1.2.1; let mg := v9.1.1.1.2.2; let mb := v9.1.1.2.1.1.1; let x := v9.1.1.2.1.1.2; let M := v9.1.1.2.1.2; let S := v9.1.1.2.2.1; let dS := v9.1.1.2.2.2; let Fn := v9.1.2.1.1.1.1; let c := v9.1.2.1.1.1.2; let cA := v9.1.2.1.1.2; let cT := v9.1.2.1.2.1; let d := v9.1.2.1.2.2; let P := v9.1.2.2.1.1.1; let A := v9.1.2.2.1.1.2; let fd := v9.1.2.2.1.2; let sl := v9.1.2.2.2.1; let fF := v9.1.2.2.2.2; let lF := v9.2.1.1.1.1.1; let oc := v9.2.1.1.1.1.2; let oA := v9.2.1.1.1.2; let oT := v9.2.1.1.2.1; let h1 := v9.2.1.1.2.2; let h2 := v9.2.1.2.1.1.1; let h3 := v9.2.1.2.1.1.2; let h4 := v9.2.1.2.1.2; let h5 := v9.2.1.2.2.1; let t1 := v9.2.1.2.2.2; let t2 := v9.2.2.1.1.1.1; let t3 := v9.2.2.1.1.1.2; let t4 := v9.2.2.1.1.2; let t5 := v9.2.2.1.2.1; let tl := v9.2.2.1.2.2; let tw := v9.2.2.2.1.1.1; let ti := v9.2.2.2.1.1.2; let n4 := v9.2.2.2.1.2; let ln := v9.2.2.2.2.1; let i := v9.2.2.2.2.2; (?_ : Claim9 prog w loose mean mg mb x M S dS Fn c cA cT d P A fd sl fF lF oc oA oT h1 h2 h3 h4 h5 t1 t2 t3 t4 t5 tl tw ti n4 ln i))
  clear_value prog w loose mean mg mb x M S dS Fn c cA cT d P A fd sl fF lF oc oA oT h1 h2 h3 h4 h5 t1 t2 t3 t4 t5 tl tw ti n4 ln i
  intro hi hne hRC
  unfold Chain10 at hne
  k_extra "CON"
  have C2 : CodeHd g' 157 153 := codeHd_of_K X' (by kernel_rfl)
  k_extra "STEPSD"
  all_goals k_extra "LV"
  all_goals (refine end_cut 0 7 ?_ ?_ ?_)
  · dsimp only [List.take, List.drop]
    have e : cutAt x i = Str.ofString "\n" := by simp_all
    rw [if_pos e]
    exact ⟨rfl, _, _, _, _, rfl, rfl⟩
  · k_extra "SUBS"
  · k_extra "NES"
  · dsimp only [List.take, List.drop]
    have e : ¬ cutAt x i = Str.ofString "\n" := by simp_all
    rw [if_neg e]
    exact ⟨rfl, _, _, _, _, rfl, rfl⟩
  · k_extra "SUBS"
  · k_extra "NES"
end
end rchar_con
theorem rchar_con (x : Str) (M S dS Fn c cA cT d P A : Addr) (fd : FuncData) (sl : Array (Option Value)) (fF : FuncData) (lF : Array (Option Value)) (oc oA oT : Obj) (h1 h2 h3 h4 h5 : Int) (t1 t2 t3 t4 t5 tl tw ti : Tok) (n4 : Nat) (ln : Int) (i : Nat)
    (hi : i ≤ x.length) (hne : Chain10 cT cA A c Fn S dS d M P) (hRC : ReadCon prog w loose mean mg mb x Fn A [(Fn, fnObj none fF lF), (c, oc), (cA, oA), (cT, oT)]) :
    Con prog w loose mean mg mb 358 290 120 [.ref M] [(M, instObj 137 d), (S, fnObj (some dS) fd sl), (dS, readDict h5 t5 Fn), (Fn, fnObj none fF lF), (c, oc), (cA, oA), (cT, oT)] [(d, machDict h1 h2 h3 h4 t1 t2 t3 t4 ln tl S tw P), (A, W.listOf #[.int i ti] n4)]
      (fun r mu' nw => nw = [] ∧ ∃ t' tl' ti' n4', r = .str (cutAt x i) t' ∧ mu' = [(d, machDict h1 h2 h3 h4 t1 t2 t3 t4 (if cutAt x i = Str.ofString "\n" then ln + 1 else ln) tl' S tw P), (A, W.listOf #[.int ((i : Int) + ((cutAt x i).length : Int)) ti'] n4')]) := ((rchar_con.spec9 rchar_con.core9 ((((((prog, w), loose), (mean, mg)), (((mb, x), M), (S, dS))), ((((Fn, c), cA), (cT, d)), (((P, A), fd), (sl, fF)))), (((((lF, oc), oA), (oT, h1)), (((h2, h3), h4), (h5, t1))), ((((t2, t3), t4), (t5, tl)), (((tw, ti), n4), (ln, i))))) : rchar_con.Claim9 prog w loose mean mg mb x M S dS Fn c cA cT d P A fd sl fF lF oc oA oT h1 h2 h3 h4 h5 t1 t2 t3 t4 t5 tl tw ti n4 ln i)) hi hne hRC
end
end
section
section
variable (prog : Program) (w : World) (loose : List Str) (mean : ExcName → Option Value) (mg mb : Str → Option Value)
theorem strs_get {vs : List Value} {ns : List Str} (h : StrsAre vs ns) : ∀ (k : Nat) (x : Value), vs[k]? = some x → ∃ y t, x = .str y t ∧ ns[k]? = some y := by
  induction h with
  | nil => intro k x hk; simp at hk
  | cons z tz r ih =>
    intro k x hk
    cases k with
    | zero => exact ⟨z, tz, by simpa using hk.symm, rfl⟩
    | succ k => simpa using ih k x (by simpa using hk)
theorem strs_app {vs : List Value} {ns : List Str} {y : Str} {t : Tok} (h : StrsAre vs ns) : StrsAre (vs ++ [.str y t]) (ns ++ [y]) := by
  induction h with
  | nil => exact .cons y t .nil
  | cons z tz r ih => exact .cons z tz ih
theorem strs_len {vs : List Value} {ns : List Str} (h : StrsAre vs ns) : vs.length = ns.length := by
  induction h with
  | nil => rfl
  | cons z tz r ih => simp [ih]
section
variable {prog : Program} {w : World} {A : Around} {E : Value → Shared → Prop} {s : Shared} {h₀ : Heap} {L l : Addr} {m : Str → Option Value} {news : Led} {env : Env}
theorem get_S {vs : List Value} {ns : List Str} {n : Nat} {i : Int} {k : Nat} {u : Tok} {Q : Value → Shared → Prop} {value slice : PySem.Expr} (N : News h₀ L s.heap news) (hl : (l, W.listOf vs.toArray n) ∈ news) (hI : StrsAre vs ns) (hi : i = (k : Int)) (hk : k < vs.length) (hk2 : k ≤ 100) (h : ∀ t, Q (.str (ns.getD k (Str.ofString "")) t) s)
    (hs : subscripted slice false (.ref l) (.int i u) = operate [.ref l, .int i u] (getItem (.ref l) (.int i u)) := by with_unfolding_all rfl) : wpAny (model prog w) A (subscriptTail value slice (.ref l) (.int i u)) Q E s := by
  have e : vs[k]? = some vs[k] := List.getElem?_eq_getElem hk
  k_extra "g"
  obtain ⟨y, t, hy, hn⟩ := strs_get hI k _ e
  k_extra "h"
  have hg : ns.getD k (Str.ofString "") = y := by rw [List.getD_eq_getElem?_getD, hn]; rfl
  refine get_A N hl hi hk2 e ?_ hs
  rw [hy, ← hg]
  exact h t
theorem lc_str {y : Str} {ty : Tok} {elt iter : PySem.Expr} {x : Str} {px pos : Pos} {scope : Scope} {cl : List (Str × Addr)} {Q : Value → Shared → Prop} {Dr : Drawn → Prop} {led0 : Led} (J : Nat → List Value → Led → Prop) (hh : A.handled = none) (hcell : ∀ y ∈ scope.names, y.2 ≠ .cell) (hkind : scope.kind = .function) (hx : scope.names.lookup x = some .local)
    (F : Fr h₀ L s.heap m) (N : News h₀ L s.heap led0) (hn : y.length ≤ 60) (hD : Dr s.drawn) (hJ : J 0 [] led0)
    (turn : ∀ i c tc ys led I oI C oC D m₂ h tk dr (E' : Value → Shared → Prop), y.cps[i]? = some c → i < y.length → Dr dr → ys.length = i → LCg.NsObj oC m₂ → m₂ x = some (.str ⟨#[c]⟩ tc) → Fr h₀ L h m → News h₀ L h ((I, oI) :: (C, oC) :: (D, LCg.lst ys) :: led) → LCg.Off3 I C D led → ((@Ne Nat I C) ∧ (@Ne Nat I D) ∧ (@Ne Nat C D)) → (@LT.lt Nat _ I D ∧ @LT.lt Nat _ D C) → (∀ p ∈ led0, p.1 < I) → J i ys led →
      wpAny (model prog w) A (eval elt (compEnvC scope cl C env)) (LBack h₀ L m s Dr I oI C oC D (LCg.lst ys) (fun _ => True) (fun y led' => J (i + 1) (ys ++ [y]) led')) E' { s with heap := h, toks := tk, drawn := dr })
    (fin : ∀ D h tk dr ys led, (∀ p ∈ led0, p.1 < D) → Dr dr → ys.length = y.length → Fr h₀ L h m → News h₀ L h ((D, LCg.lst ys) :: led) → AllNe D led → J y.length ys led → Q (.ref D) { s with heap := h, toks := tk, drawn := dr }) :
    wpAny (model prog w) A (pyIter (.str y ty)) (LcAt prog w A E env cl elt iter x px scope pos none Q) E s := by
  have up : ∀ o b o', s.heap.get? b = some o' → (s.heap.push o).get? b = some o' := fun o b o' e => Heap.get?_push_of_some _ e
  have key : ∀ (cls : String) (o : Obj), o = { cls := .type cls, data := .fields #[.str y ty, .int 0 0] } → Walks prog w A s.heap.objs.size [s.heap.objs.size] [s.heap.objs.size] y.cps.size (SignAt y) (fun i h => h.IsStrIter s.heap.objs.size cls y ty i) →
      LcAt prog w A E env cl elt iter x px scope pos none Q (.ref s.heap.objs.size) { s with heap := s.heap.push o } := by
    intro cls o ho W
    refine lc_any (S := fun _ => True) (J := J) (n := y.cps.size) W (show y.cps.size ≤ 1000 from by have : y.cps.size = y.length := rfl; omega) (fun i h st => by obtain ⟨o, e, _⟩ := st; exact ⟨o, e⟩) ?_ hcell hkind hx
      (by subst ho; exact ⟨_, Heap.get?_push_size _ rfl, rfl, rfl⟩) (fun b hb => ?_) (F.keeps (up o)) (N.grown (up o)) (Nat.ne_of_lt F.ns.lt) (next_is_new F) (fun p hp => Nat.ne_of_lt (Heap.lt_size (N p hp).1)) trivial hD hJ (fun i v ys led oI C oC D m₂ h tk dr E' hP hi hd hy hC hv F' N' o1 o2 o3 _ hJ' => ?_) (fun D h tk dr ys led hb hd hy F' N' o1 _ hJ' => fin D h tk dr ys led hb hd hy F' N' o1 hJ')
    · intro i h h' o nw st e e' k N2 _
      k_extra "g"
      obtain ⟨o', q, r⟩ := st
      k_extra "h"
      rw [e] at q; cases q
      exact ⟨o, e', r⟩
    · rw [List.mem_singleton.mp hb]
      show s.heap.objs.size < (s.heap.push _).objs.size
      rw [Heap.size_push]
      exact Nat.lt_succ_self _
    · obtain ⟨c, tc, hc, rfl⟩ := hP
      exact turn i c tc ys led _ oI C oC D m₂ h tk dr E' hc hi hd hy hC hv F' N' o1 o2 o3 (fun p hp => Heap.lt_size (N p hp).1) hJ'
  cases ha : y.cps.all (· < 128)
  · exact wpAny_pyIter_wide ha (key "str_iterator" _ rfl (Walks.strWide hh _ y ty))
  · exact wpAny_pyIter_ascii ha (key "str_ascii_iterator" _ rfl (Walks.strAscii hh _ y ty))
theorem join_S {D : Addr} {vs : List Value} {ys : List Str} {x : Str} {t : Tok} {n : Nat} {Q : Value → Shared → Prop} (N : News h₀ L s.heap news) (hl : (D, W.listOf vs.toArray n) ∈ news) (hi : StrsAre vs ys) (hsep : x.length ≤ 16) (hw : (ys.map (·.length)).sum + ys.length ≤ 1048576)
    (h : ∀ t' k, Q (.str (Txt.join x ys) t') { s with toks := k }) : wpAny (model prog w) A (call (.builtin "str.join") [.str x t, .ref D]) Q E s :=
  join_listW (items := vs.toArray) ⟨_, (N _ hl).1, rfl, _, rfl⟩ hi hsep hw h
theorem add_S {x y : Str} {t u : Tok} {Q : Value → Shared → Prop} (hl : x.length + y.length ≤ 1000) (h : ∀ t' tk, Q (.str (x ++ y) t') { s with toks := tk }) : wpAny (model prog w) A (binaryOp .Add (.str x t) (.str y u)) Q E s :=
  add_str h (by rw [PySem.sizeLine_eq]; omega)
theorem len_q1 : (Str.ofString "\"").length = 1 := by decide
theorem len_b1 : (Str.ofString "\\").length = 1 := by decide
theorem len_one (c : Nat) : (⟨#[c]⟩ : Str).length = 1 := rfl
end
end
end
section
open L_P L_R L_T2 L_L L_X
section
variable (prog : Program) (w : World) (loose : List Str) (mean : ExcName → Option Value) (mg mb : Str → Option Value)
theorem esc_w : ∀ (l : List Nat), ((l.map fun c => Str.ofString "\\" ++ (⟨#[c]⟩ : Str)).map (·.length)).sum + (l.map fun c => Str.ofString "\\" ++ (⟨#[c]⟩ : Str)).length = 3 * l.length
  | [] => rfl
  | a :: l => by
    have := esc_w l
    simp only [List.map_cons, List.sum_cons, List.length_cons, PySem.Str.length_append, len_b1, len_one] at this ⊢
    omega
theorem pieceF_len {x : Str} {q : Int} (h : x.length = 1 ∨ x.length = 2) : (pieceF x q).length ≤ 4 := by
  unfold pieceF
  have hq : (Str.ofString "\"").length = 1 := by decide
  split
  · have hl : x.cps.toList.length = x.length := rfl
    show (Builtin.Str.glued (Str.ofString "") _).length ≤ 4
    rw [PySem.StrLaws.glued_eq_join]
    have hw := esc_w x.cps.toList
    rw [List.length_map] at hw
    have h0 : (Str.ofString "").length = 0 := by decide
    generalize x.cps.toList = l at hw hl ⊢
    cases l with
    | nil => decide
    | cons a r =>
      rw [List.map_cons, len_join_cons, h0]
      rw [List.map_cons] at hw
      omega
  · split
    · simp only [PySem.Str.length_append, hq]
      omega
    · omega
theorem textF_len {xs : List Str} {qs : List Int} (hx : ∀ x ∈ xs, x.length = 1 ∨ x.length = 2) : ∀ {i : Nat}, i ≤ xs.length → (textF xs qs i).length ≤ 5 * i
  | 0, _ => Nat.le_of_ble_eq_true rfl
  | i + 1, hi => by
    have h1 := textF_len hx (qs := qs) (i := i) (by omega)
    have hm : xs.getD i (Str.ofString "") ∈ xs := by
      rw [List.getD_eq_getElem?_getD, List.getElem?_eq_getElem (by omega)]
      exact List.getElem_mem _
    have h2 := pieceF_len (q := qs.getD i 0) (hx _ hm)
    unfold textF
    simp only [PySem.Str.length_append, len_item]
    omega
end
namespace text_con
noncomputable section
def Claim9 (prog : Program) (w : World) (loose : List Str) (mean : ExcName → Option Value) (mg mb : Str → Option Value) (WD SD : Addr) (vs us : List Value) (xs : List Str) (qs : List Int) (n n2 : Nat) : Prop := ∀ (hI : StrsAre vs xs) (hq : IntsAre us qs) (hl : xs.length ≤ 6) (hql : qs.length = xs.length) (hx : ∀ x ∈ xs, x.length = 1 ∨ x.length = 2), Con prog w loose mean mg mb 335 160 151 [.ref WD, .ref SD] [(WD, W.listOf vs.toArray n), (SD, W.listOf us.toArray n2)] []
      (fun r mu' nw => ∃ t, r = .str (textF xs qs xs.length) t ∧ mu' = [] ∧ nw = [])
abbrev T9 : Type := ((((Program × World) × ((List Str) × (ExcName → Option Value))) × (((Str → Option Value) × (Str → Option Value)) × Addr)) × (((Addr × (List Value)) × ((List Value) × (List Str))) × (((List Int) × Nat) × Nat)))
def U9 (t : T9) : Prop := Claim9 t.1.1.1.1 t.1.1.1.2 t.1.1.2.1 t.1.1.2.2 t.1.2.1.1 t.1.2.1.2 t.1.2.2 t.2.1.1.1 t.2.1.1.2 t.2.1.2.1 t.2.1.2.2 t.2.2.1.1 t.2.2.1.2 t.2.2.2
@[irreducible] def v9 : T9 := ch9 (by k_extra "NE") U9
theorem spec9 : U9 v9 → ∀ t, U9 t := by with_unfolding_all exact sp9 _ U9
def prog := v9.1.1.1.1
def w := v9.1.1.1.2
def loose := v9.1.1.2.1
def mean := v9.1.1.2.2
def mg := v9.1.2.1.1
def mb := v9.1.2.1.2
def WD := v9.1.2.2
def SD := v9.2.1.1.1
def vs := v9.2.1.1.2
def us := v9.2.1.2.1
def xs := v9.2.1.2.2
def qs := v9.2.2.1.1
def n := v9.2.2.1.2
def n2 := v9.2.2.2
theorem core9 : Claim9 prog w loose mean mg mb WD SD vs us xs qs n n2 := by
  intro hI hq hl hql hx
  have hvl := strs_len hI
  have hul := hq.length
  k_extra "CON"
  k_extra "TOIT"
  rename_i R r1 r2 h3 tk3 F1 N9 lR
  clear N1
  refine owit_range (n := vs.length) (R := R) (Dr := fun d => d = s.drawn) (fun i m led => ∃ rO t, m (Str.ofString "words") = some (.ref WD) ∧ m (Str.ofString "styles") = some (.ref SD) ∧ m (Str.ofString "text") = some (.str (textF xs qs i) t) ∧
      led = [(R, rO), (WD, W.listOf vs.toArray n), (SD, W.listOf us.toArray n2)]) rfl F1 N9 (.head _) (by omega) (by omega) (by omega) rfl ?hJ ?turn ?fin
  case hJ => exact ⟨_, _, rfl, rfl, rfl, rfl⟩
  case turn =>
    intro i tx h tk dr m' led I it hi hdr F2 N2 off hIl hJ
    refine ex_2 hJ ?_; clear hJ; intro rO tt hJ
    refine and_4 hJ ?_; clear hJ; intro e1 e2 e3 hled
    rw [hled] at N2 off
    (try rw [hled] at hIl)
    clear hled
    subst hdr
    have F3 := fr_know3 F2 e1 e2 e3
    clear F2 e1 e2 e3 F1 N9
    k_lt hIl
    rw [Int.zero_add]
    (try dsimp only)
    have hxi : (xs.getD (i : Int).toNat (Str.ofString "")).length ≤ 2 := by
      have hm : xs.getD (i : Int).toNat (Str.ofString "") ∈ xs := by
        rw [List.getD_eq_getElem?_getD, Int.toNat_natCast, List.getElem?_eq_getElem (by omega)]
        exact List.getElem_mem _
      rcases hx _ hm with h | h <;> omega
    have htl := textF_len hx (qs := qs) (i := i) (by omega)
    (first | (refine opq_turn ?_; intro QT9 hT9) | (refine opq_V ?_; intro QT9 hT9))
    k_extra "TOLC"
    · rename qs.getD (i : Int).toNat 0 = 1 => q1
      have q2 : qs.getD (i : Int).toNat 0 ≠ 2 := by omega
      rename News g' L' _ _ => NB
      rename Fr g' L' _ _ => FB
      have e : pieceF (xs.getD (i : Int).toNat (Str.ofString "")) (qs.getD (i : Int).toNat 0) = Str.ofString "\"" ++ xs.getD (i : Int).toNat (Str.ofString "") ++ Str.ofString "\"" := by
        unfold pieceF
        rw [if_neg q2, if_pos q1]
      refine exI_5 _ _ _ _ _ ⟨rfl, rfl, FB, NB, off, trivial, _, ?tt1, rfl, rfl, ?_, rfl⟩
      show some (Value.str _ _) = some (Value.str (textF xs qs i ++ pieceF (xs.getD (i : Int).toNat (Str.ofString "")) (qs.getD (i : Int).toNat 0) ++ Txt.item (Str.ofString " \n\t") ((i : Int).fmod 3)) _)
      rw [e]
      try rfl
    · rename qs.getD (i : Int).toNat 0 ≠ 1 => q1
      rename qs.getD (i : Int).toNat 0 = 2 => q2
      rename News g' L' _ _ => NB
      rename Fr g' L' _ _ => FB
      have e : pieceF (xs.getD (i : Int).toNat (Str.ofString "")) (qs.getD (i : Int).toNat 0) = Txt.join (Str.ofString "") ((xs.getD (i : Int).toNat (Str.ofString "")).cps.toList.map fun c => Str.ofString "\\" ++ ⟨#[c]⟩) := by
        unfold pieceF
        rw [if_pos q2]
      have hjl : (Txt.join (Str.ofString "") ((xs.getD (i : Int).toNat (Str.ofString "")).cps.toList.map fun c => Str.ofString "\\" ++ ⟨#[c]⟩)).length ≤ 4 := by
        rw [← e]
        have hm : xs.getD (i : Int).toNat (Str.ofString "") ∈ xs := by
          rw [List.getD_eq_getElem?_getD, Int.toNat_natCast, List.getElem?_eq_getElem (by omega)]
          exact List.getElem_mem _
        exact pieceF_len (hx _ hm)
      generalize hyy : xs.getD (i : Int).toNat (Str.ofString "") = yy at *
      refine lc_str (Dr := fun d => d = s.drawn) (fun j ys led => led = [(I, it), (R, rO), (WD, W.listOf vs.toArray n), (SD, W.listOf us.toArray n2)] ∧ StrsAre ys ((yy.cps.toList.map fun c => Str.ofString "\\" ++ ⟨#[c]⟩).take j)) rfl (by decide) rfl rfl FB NB (by omega) rfl ⟨rfl, .nil⟩ ?turn2 ?fin2
      case turn2 =>
        intro j c tc ys led I2 oI C oC D m₂ h tk dr E' hc hj hdr hyl hC hx2 F2 N2 off2 hne hlt hIl2 hJ
        k_extra "g"
        obtain ⟨rfl, hys⟩ := hJ
        k_extra "h"
        subst hdr
        k_lt hIl2
        have hyj : (yy.cps.toList.map fun c => Str.ofString "\\" ++ (⟨#[c]⟩ : Str))[j]? = some (Str.ofString "\\" ++ ⟨#[c]⟩) := by
          rw [List.getElem?_map, Array.getElem?_toList, hc]; rfl
        (first | (refine opq_turn ?_; intro QT9 hT9) | (refine opq_V ?_; intro QT9 hT9))
        k_extra "STEPSD"
        rename News g' L' _ _ => NC
        exact exI_4 _ _ _ _ ⟨rfl, rfl, by assumption, NC, off2, trivial, rfl, by rw [take_next hyj]; exact strs_app hys⟩
      case fin2 =>
        intro D h tk dr ys led hbl hdr hyl F2 N2 o1 hJ
        k_extra "g"
        obtain ⟨rfl, hys⟩ := hJ
        k_extra "h"
        subst hdr
        k_lt hbl
        rw [List.take_of_length_le (by rw [List.length_map]; exact Nat.le_of_eq rfl)] at hys
        have hw0 := esc_w yy.cps.toList
        have hyl2 : yy.cps.toList.length = yy.length := rfl
        have hw1 : ((yy.cps.toList.map fun c => Str.ofString "\\" ++ (⟨#[c]⟩ : Str)).map (·.length)).sum + (yy.cps.toList.map fun c => Str.ofString "\\" ++ (⟨#[c]⟩ : Str)).length ≤ 1048576 := by omega
        clear hw0 hyl2
        k_extra "STEPSD"
        rename News g' L' _ _ => NB2
        rename Fr g' L' _ _ => FB2
        refine exI_5 _ _ _ _ _ ⟨rfl, rfl, FB2, ?nn, off, trivial, _, ?tt2, rfl, rfl, ?ee, rfl⟩
        case nn => exact fun p hp => NB2 p (.tail _ hp)
        case ee =>
          show some (Value.str _ _) = some (Value.str (textF xs qs i ++ pieceF (xs.getD (i : Int).toNat (Str.ofString "")) (qs.getD (i : Int).toNat 0) ++ Txt.item (Str.ofString " \n\t") ((i : Int).fmod 3)) _)
          rw [hyy, e]
          try rfl
    · rename qs.getD (i : Int).toNat 0 ≠ 1 => q1
      rename qs.getD (i : Int).toNat 0 ≠ 2 => q2
      rename News g' L' _ _ => NB
      rename Fr g' L' _ _ => FB
      have e : pieceF (xs.getD (i : Int).toNat (Str.ofString "")) (qs.getD (i : Int).toNat 0) = xs.getD (i : Int).toNat (Str.ofString "") := by
        unfold pieceF
        rw [if_neg q2, if_neg q1]
      refine exI_5 _ _ _ _ _ ⟨rfl, rfl, FB, NB, off, trivial, _, ?tt3, rfl, rfl, ?_, rfl⟩
      show some (Value.str _ _) = some (Value.str (textF xs qs i ++ pieceF (xs.getD (i : Int).toNat (Str.ofString "")) (qs.getD (i : Int).toNat 0) ++ Txt.item (Str.ofString " \n\t") ((i : Int).fmod 3)) _)
      rw [e]
      try rfl
  case fin =>
    intro h tk dr m' led hdr F2 N2 hJ
    refine ex_2 hJ ?_; clear hJ; intro rO tt hJ
    refine and_4 hJ ?_; clear hJ; intro e1 e2 e3 hled
    rw [hled] at N2
    clear hled
    subst hdr
    have F3 := fr_know3 F2 e1 e2 e3
    clear F2 e1 e2 e3 F1 N9
    (try dsimp only)
    k_extra "STEPSD"
    (try dsimp only)
    k_extra "LV"
    rw [hvl]
    refine end_pick [] [] ⟨_, rfl, rfl, rfl⟩ ?_ (List.forall_mem_nil _) (List.forall_mem_nil _) ?_
    · k_extra "SUBS"
    · k_extra "NES"
end
end text_con
section
variable (prog : Program) (w : World) (loose : List Str) (mean : ExcName → Option Value) (mg mb : Str → Option Value)
theorem text_con (WD SD : Addr) (vs us : List Value) (xs : List Str) (qs : List Int) (n n2 : Nat) (hI : StrsAre vs xs) (hq : IntsAre us qs) (hl : xs.length ≤ 6) (hql : qs.length = xs.length) (hx : ∀ x ∈ xs, x.length = 1 ∨ x.length = 2) :
    Con prog w loose mean mg mb 335 160 151 [.ref WD, .ref SD] [(WD, W.listOf vs.toArray n), (SD, W.listOf us.toArray n2)] []
      (fun r mu' nw => ∃ t, r = .str (textF xs qs xs.length) t ∧ mu' = [] ∧ nw = []) := ((text_con.spec9 text_con.core9 ((((prog, w), (loose, mean)), ((mg, mb), WD)), (((SD, vs), (us, xs)), ((qs, n), n2))) : text_con.Claim9 prog w loose mean mg mb WD SD vs us xs qs n n2)) hI hq hl hql hx
end
end
section
theorem L_T_M3.ln9_T_M3 : True := trivial
open L_T_M3
section
variable (prog : Program) (w : World) (loose : List Str) (mean : ExcName → Option Value) (mg mb : Str → Option Value)
theorem fill_M3 : PySem.Challenge.rw_sh0047_01 = PySem.Challenge.rw_sh0047_01 ∧ kf.heap_1 = kf.heap_1 := by
  k_fill
  exact ⟨rfl, rfl⟩
theorem kw9_M3_2 : True := by
  (k_with "lT_M3" => fail_if_success (fail_if_success (have h9 := ln9_T_M3)))
  (k_with "setAttr ref" => (k_extra "lT_M3"; (k_here; (with_reducible show wpAny _ _ (setAttr (Value.ref _) (Str.ofString "read") _) _ _ _); k_dflt (refine' fn_setReadU ?k1 ?k2 ?k3 ?_; (case k1 => k_asm); (case k2 => k_asm); (case k3 => k_extra "mU"; k_updF); k_whole); walk_at "TL")))
  (k_with "getMethod ref" => (k_extra "lT_M3"; (k_here; (with_reducible show wpAny _ _ (getMethod (Value.ref _) (Str.ofString "read") _) _ _ _); k_dflt (refine' fn_methReadN ?k1 ?k2 ?k3 ?k4 ?_; (case k1 => k_asm); (case k2 => k_mem); (case k3 => k_mem); (case k4 => k_handed); k_whole); intro _)))
  trivial
end
namespace mach_conz
noncomputable section
def Claim9 (prog : Program) (w : World) (loose : List Str) (mean : ExcName → Option Value) (mg mb : Str → Option Value) (z : Addr) (oz : Obj) (x : Str) (t : Tok) : Prop := ∀ (hx : x.length ≤ 200) (hz : @LT.lt Nat _ 153 z), Con prog w loose mean mg mb 350 200 158 [.str x t] [(z, oz)] [(153, tabObj #[])] (fun r mu' nw => ∃ (M S dS F c c2 cA cT d P A : Addr) (fd : FuncData) (sl : Array (Option Value)) (fF : FuncData) (lF : Array (Option Value)) (oc oc2 oA oT : Obj) (h1 h2 h3 h4 h5 : Int) (t1 t2 t3 t4 t5 tl tw ti : Tok) (n3 n4 : Nat) (ps : Array Value),
    r = .ref M ∧ mu' = [(153, tabObj ps)] ∧ nw = [(P, W.listOf #[] n3), (M, instObj 137 d), (d, machDict h1 h2 h3 h4 t1 t2 t3 t4 1 tl S tw P), (dS, readDict h5 t5 F), (S, fnObj (some dS) fd sl), (c2, oc2), (F, fnObj none fF lF), (c, oc), (A, W.listOf #[.int 0 ti] n4), (cA, oA), (cT, oT)] ∧
    @LT.lt Nat _ z cT ∧ Chain10 cT cA A c F S dS d M P ∧ ReadCon prog w loose mean mg mb x F A [(F, fnObj none fF lF), (c, oc), (cA, oA), (cT, oT)])
abbrev T9 : Type := ((((Program × World) × (List Str)) × ((ExcName → Option Value) × (Str → Option Value))) × ((((Str → Option Value) × Addr) × Obj) × (Str × Tok)))
def U9 (t : T9) : Prop := Claim9 t.1.1.1.1 t.1.1.1.2 t.1.1.2 t.1.2.1 t.1.2.2 t.2.1.1.1 t.2.1.1.2 t.2.1.2 t.2.2.1 t.2.2.2
@[irreducible] def v9 : T9 := ch9 (by k_extra "NE") U9
theorem spec9 : U9 v9 → ∀ t, U9 t := by with_unfolding_all exact sp9 _ U9
def prog := v9.1.1.1.1
def w := v9.1.1.1.2
def loose := v9.1.1.2
def mean := v9.1.2.1
def mg := v9.1.2.2
def mb := v9.2.1.1.1
def z := v9.2.1.1.2
def oz := v9.2.1.2
def x := v9.2.2.1
def t := v9.2.2.2
theorem core9 : Claim9 prog w loose mean mg mb z oz x t := by
  intro hx hz
  k_extra "CONC"
  have C1 : CodeHd g' 157 153 := codeHd_of_K X' (by kernel_rfl)
  k_extra "STEPSD"
  k_extra "LV"
  refine end_cut3 0 11 12 ?_ ?_ ?_
  · dsimp only [List.take, List.drop]
    refine exI_18 _ _ _ _ _ _ _ _ _ _ _ _ _ _ _ _ _ _ (exI_17 _ _ _ _ _ _ _ _ _ _ _ _ _ _ _ _ _ ⟨rfl, rfl, rfl, ?_, ?_, ?_⟩)
    · omega
    · unfold Chain10
      omega
    · clear hret kG' N1
      intro i t tk n hi
      k_extra "CONM"
      have C2 : CodeHd g' 157 153 := codeHd_of_K X' (by kernel_rfl)
      k_extra "STEPSD"
      k_extra "LV"
      refine end_cut 0 4 ?_ ?_ ?_
      · dsimp only [List.take, List.drop]
        exact ⟨rfl, _, _, _, rfl, rfl⟩
      · k_extra "SUBS"
      · k_extra "NES"
  · k_extra "SUBS"
  · k_extra "NES3"
end
end mach_conz
section
variable (prog : Program) (w : World) (loose : List Str) (mean : ExcName → Option Value) (mg mb : Str → Option Value)
theorem mach_conz (z : Addr) (oz : Obj) (x : Str) (t : Tok) (hx : x.length ≤ 200) (hz : @LT.lt Nat _ 153 z) : Con prog w loose mean mg mb 350 200 158 [.str x t] [(z, oz)] [(153, tabObj #[])] (fun r mu' nw => ∃ (M S dS F c c2 cA cT d P A : Addr) (fd : FuncData) (sl : Array (Option Value)) (fF : FuncData) (lF : Array (Option Value)) (oc oc2 oA oT : Obj) (h1 h2 h3 h4 h5 : Int) (t1 t2 t3 t4 t5 tl tw ti : Tok) (n3 n4 : Nat) (ps : Array Value),
    r = .ref M ∧ mu' = [(153, tabObj ps)] ∧ nw = [(P, W.listOf #[] n3), (M, instObj 137 d), (d, machDict h1 h2 h3 h4 t1 t2 t3 t4 1 tl S tw P), (dS, readDict h5 t5 F), (S, fnObj (some dS) fd sl), (c2, oc2), (F, fnObj none fF lF), (c, oc), (A, W.listOf #[.int 0 ti] n4), (cA, oA), (cT, oT)] ∧
    @LT.lt Nat _ z cT ∧ Chain10 cT cA A c F S dS d M P ∧ ReadCon prog w loose mean mg mb x F A [(F, fnObj none fF lF), (c, oc), (cA, oA), (cT, oT)]) := ((mach_conz.spec9 mach_conz.core9 ((((prog, w), loose), (mean, mg)), (((mb, z), oz), (x, t))) : mach_conz.Claim9 prog w loose mean mg mb z oz x t)) hx hz
end
end
section
section
variable (prog : Program) (w : World) (loose : List Str) (mean : ExcName → Option Value) (mg mb : Str → Option Value)
section
variable {prog : Program} {w : World} {loose : List Str} {mean : ExcName → Option Value} {mg mb : Str → Option Value} {dp un : Nat} {big : Led} {g : Obj → Led}
  {gd : Option (List Code)} {cn : Str} {cs : Scope} {a : Addr} {ccd : Value} {cl : List (Str × Addr)} {outer : List Env} {A₀ : Around} {base h₀ : Heap} {L z ss : Addr} {oz : Obj} {m : Str → Option Value} {s : Shared} {Q E : Value → Shared → Prop}
theorem drawn_u {vs : List Value} {xs : List Int} (hI : IntsAre vs xs) (hl : xs.length ≤ 63) (hz : (z, oz) ∈ big) (hdp : dp ≤ 335) (hu : un ≤ 160) (hs : h₀.IsList ss vs.toArray) (B : Below A₀ base outer h₀) (F : Fr h₀ L s.heap m) (X : (kf.heap_1 w.params).In h₀) (N : News h₀ L s.heap big) (T : Top topProg loose mean mg mb h₀) (hk : cs.kind = .function)
    (ret : ∀ TU M SP ST pp uu m1 m2 pv sv ps qs pc sc t1 t2 t3 t4 h' tk', Fr h₀ L h' m → News h₀ L h' ((TU, tupO [.int pp t1, .int uu t2, .ref M, .ref SP, .ref ST]) :: (ST, W.listOf (sv : List Value).toArray sc) :: (SP, W.listOf (pv : List Value).toArray pc) :: (M, W.listOf #[.int m1 t3, .int m2 t4] 0) :: big) → @LT.lt Nat _ z M → @LT.lt Nat _ M SP → @LT.lt Nat _ SP ST → @LT.lt Nat _ ST TU → DrawnTo pp uu m1 m2 pv sv ps qs → Q (.ref TU) { s with heap := h', toks := tk' }) :
    wpAny (model prog w) (ktrTop dp un gd cn cs L a ccd cl outer) (call (.ref 146) [.ref ss]) Q E s := by
  refine wpAny_call <| (drawn_con prog w loose mean mg mb z ss oz vs xs hI hl).con (big := []) hdp hu hs B F X (fun p hp => ?_) T hk fun r mu' nw h' tk' F' N' k fr hR => ?_
  · rw [List.append_nil, List.mem_singleton] at hp
    rw [hp]; exact N _ hz
  · k_extra "g"
    refine ex_12 hR fun TU M SP ST pp uu m1 m2 pv sv ps qs k_ => ex_6 k_ fun pc sc t1 t2 t3 t4 k_ => and_8 k_ fun r1_ r2_ r3_ l1 l2 l3 l4 hD => ?_
    clear k_ hR
    subst r1_
    subst r2_
    subst r3_
    k_extra "h"
    refine ret TU M SP ST pp uu m1 m2 pv sv ps qs pc sc t1 t2 t3 t4 h' tk' F' (fun p hp => ?_) l1 l2 l3 l4 hD
    have key : p ∈ big → _ := fun hp => (⟨k _ _ (N p hp).1 (fun h => nomatch h), (N p hp).2⟩ : h'.get? p.1 = some p.2 ∧ p.1 ≠ L ∧ h₀.get? p.1 = none)
    simp only [List.mem_cons] at hp
    k_extra "g"
    rcases hp with rfl | rfl | rfl | rfl | hp <;> k_extra "h"
    · exact N' _ (.head _)
    · exact N' _ (.tail _ (.head _))
    · exact N' _ (mem_ix 2 rfl)
    · exact N' _ (mem_ix 3 rfl)
    · exact key hp
end
def LawAt (w : World) (qual : Str) (scope : Scope) (body : List Stmt) : Prop := ∃ oc od name params dV kV doc pm an cdv ct osl, (kf.heap_1 w.params).lookup 208 = some ⟨oc, od, .func (fnOf name qual params body scope dV kV doc pm an cdv ct), osl⟩
theorem fill_LW0 : PySem.Challenge.rw_sh0047_01 = PySem.Challenge.rw_sh0047_01 ∧ kf.heap_1 = kf.heap_1 := by
  k_fill
  exact ⟨rfl, rfl⟩
noncomputable def lawR : { x : Str × Scope × List Stmt // ∀ w : World, ∃ oc od name params dV kV doc pm an cdv ct osl, (kf.heap_1 w.params).lookup 208 = some ⟨oc, od, .func (fnOf name x.1 params x.2.2 x.2.1 dV kV doc pm an cdv ct), osl⟩ } := ⟨(_, _, _), fun w => ⟨_, _, _, _, _, _, _, _, _, _, _, _, (show (kf.heap_1 w.params).lookup 208 = some _ from by k_is)⟩⟩
theorem law_lit {w : World} {qual : Str} {scope : Scope} {body : List Stmt} (H : LawAt w qual scope body) : qual = lawR.1.1 ∧ scope = lawR.1.2.1 ∧ body = lawR.1.2.2 := by
  refine ex_12 H fun oc od name params dV kV doc pm an cdv ct osl hL => ex_12 (lawR.2 w) fun oc' od' name' params' dV' kV' doc' pm' an' cdv' ct' osl' hL' => ?_
  generalize lawR.1 = x at hL' ⊢
  rw [hL'] at hL
  cases hL
  exact ⟨rfl, rfl, rfl⟩
@[elab_as_elim] theorem law_cc {w : World} {qual : Str} {scope : Scope} {body : List Stmt} {i : Nat} {q : Str} {sc : Scope} {l : List Stmt} {s' st : Stmt} {L fa : Addr} {cd : Value} {ε : Env} {motive : Env → Stmt → Prop} (e : lawR.1 = (q, sc, l)) (e2 : l[i]? = some s') (H : LawAt w qual scope body) (hst : body[i]? = some st) (hε : ε = envOfC qual scope L fa cd) (h : motive (envOfC q sc L fa cd) s') : motive ε st := by
  obtain ⟨h1, h2, h3⟩ := law_lit H
  rw [e] at h1 h2 h3
  subst hε
  subst h1
  subst h2
  subst h3
  rw [show st = s' from Option.some.inj (hst.symm.trans e2)]
  exact h
noncomputable abbrev lawEnv (qual : Str) (scope : Scope) (L fa : Addr) (cd : Value) : Env := envOfC qual scope L fa cd
theorem fr_unknow {h₀ h : Heap} {L : Addr} {m : Str → Option Value} {y : Str} {x : Value} (F : Fr h₀ L h (fun z => if z = y then some x else m z)) (e : m y = some x) : Fr h₀ L h m := by
  have : (fun z => if z = y then some x else m z) = m := by
    funext z
    by_cases q : z = y
    · subst q; rw [if_pos rfl, e]
    · rw [if_neg q]
  rw [this] at F
  exact F
theorem news_skip {h₀ h : Heap} {L : Addr} (A B : Led) {x : Addr × Obj} (N : News h₀ L h (A ++ (x :: B))) : News h₀ L h (A ++ B) := fun q hq => N q (List.mem_append.mpr ((List.mem_append.mp hq).imp id (.tail _)))
section
variable {prog : Program} {w : World} {loose : List Str} {mean : ExcName → Option Value} {mg mb : Str → Option Value} {dp un : Nat} {big : Led} {g : Obj → Led}
  {gd : Option (List Code)} {cn : Str} {cs : Scope} {a : Addr} {ccd : Value} {cl : List (Str × Addr)} {outer : List Env} {A₀ : Around} {base h₀ : Heap} {L z ss : Addr} {oz : Obj} {m : Str → Option Value} {s : Shared} {Q E : Value → Shared → Prop}
theorem str_I {A : Around} {n : Int} {t : Tok} (hb : 0 ≤ n ∧ n ≤ 1000) (h : ∀ t' tk, Q (.str (showI n) t') { s with toks := tk }) : wpAny (model prog w) A (call (.type "str") [.int n t]) Q E s :=
  PySem.P.str_of_int (shown (N := 2 ^ 1920) (by omega) (by omega) (Int.le_refl _)) (h _ _)
theorem text_u {vs us : List Value} {xs : List Str} {qs : List Int} {WD SD : Addr} {n n2 : Nat} (hI : StrsAre vs xs) (hq : IntsAre us qs) (hl : xs.length ≤ 6) (hql : qs.length = xs.length) (hx : ∀ x ∈ xs, x.length = 1 ∨ x.length = 2) (hW : (WD, W.listOf vs.toArray n) ∈ big) (hS : (SD, W.listOf us.toArray n2) ∈ big) (hdp : dp ≤ 335) (hu : un ≤ 160) (B : Below A₀ base outer h₀) (F : Fr h₀ L s.heap m) (X : (kf.heap_1 w.params).In h₀) (N : News h₀ L s.heap big) (T : Top topProg loose mean mg mb h₀) (hk : cs.kind = .function)
    (ret : ∀ t' h' tk', Fr h₀ L h' m → News h₀ L h' big → Q (.str (textF xs qs xs.length) t') { s with heap := h', toks := tk' }) :
    wpAny (model prog w) (ktrTop dp un gd cn cs L a ccd cl outer) (call (.ref 151) [.ref WD, .ref SD]) Q E s := by
  refine wpAny_call <| con_use0 (text_con prog w loose mean mg mb WD SD vs us xs qs n n2 hI hq hl hql hx) hdp hu B F X N T hk (fun p hp => ?_) fun r mu' nw h' tk' F' N' hR hn => ?_
  · simp only [List.mem_cons, List.not_mem_nil, or_false] at hp
    k_extra "g"
    rcases hp with rfl | rfl <;> k_extra "h"
    · exact hW
    · exact hS
  · k_extra "g"
    obtain ⟨t, rfl, _, rfl⟩ := hR
    k_extra "h"
    exact ret t h' tk' F' N'
structure Mach where
  (M S dS Fn c c2 cA cT d P A : Addr) (fd : FuncData) (sl : Array (Option Value)) (fF : FuncData) (lF : Array (Option Value)) (oc oc2 oA oT : Obj) (h1 h2 h3 h4 h5 : Int) (t1 t2 t3 t4 t5 tw : Tok)
noncomputable abbrev Mach.ro (K : Mach) : Led := [(K.M, instObj 137 K.d), (K.S, fnObj (some K.dS) K.fd K.sl), (K.dS, readDict K.h5 K.t5 K.Fn), (K.Fn, fnObj none K.fF K.lF), (K.c, K.oc), (K.cA, K.oA), (K.cT, K.oT)]
noncomputable abbrev Mach.dict (K : Mach) (ln : Int) (tl : Tok) : Obj := machDict K.h1 K.h2 K.h3 K.h4 K.t1 K.t2 K.t3 K.t4 ln tl K.S K.tw K.P
abbrev Mach.chain (K : Mach) : Prop := Chain10 K.cT K.cA K.A K.c K.Fn K.S K.dS K.d K.M K.P
abbrev Mach.rch (K : Mach) (prog : Program) (w : World) (loose : List Str) (mean : ExcName → Option Value) (mg mb : Str → Option Value) (x : Str) : Prop := RchCon prog w loose mean mg mb x K.M K.d K.A K.S K.P K.h1 K.h2 K.h3 K.h4 K.t1 K.t2 K.t3 K.t4 K.tw K.ro
theorem mach_u {x : Str} {t : Tok} (hx : x.length ≤ 200) (hz : (z, oz) ∈ big) (hzl : @LT.lt Nat _ 153 z) (hU : UpdF 153 (tabObj #[]) big g) (hdp : dp ≤ 350) (hu : un ≤ 200) (B : Below A₀ base outer h₀) (F : Fr h₀ L s.heap m) (X : (kf.heap_1 w.params).In h₀) (N : News h₀ L s.heap big) (T : Top topProg loose mean mg mb h₀) (hk : cs.kind = .function)
    (ret : ∀ (K : Mach) (ps : Array Value) (n3 n4 : Nat) (tl ti : Tok) h' tk', Fr h₀ L h' m → News h₀ L h' ((K.P, W.listOf #[] n3) :: (K.M, instObj 137 K.d) :: (K.d, K.dict 1 tl) :: (K.dS, readDict K.h5 K.t5 K.Fn) :: (K.S, fnObj (some K.dS) K.fd K.sl) :: (K.Fn, fnObj none K.fF K.lF) :: (K.c, K.oc) :: (K.A, W.listOf #[.int 0 ti] n4) :: (K.cA, K.oA) :: (K.cT, K.oT) :: g (tabObj ps)) →
      @LT.lt Nat _ z K.cT → K.chain → K.rch prog w loose mean mg mb x → Q (.ref K.M) { s with heap := h', toks := tk' }) :
    wpAny (model prog w) (ktrTop dp un gd cn cs L a ccd cl outer) (call (.ref 158) [.str x t]) Q E s := by
  refine wpAny_call <| con_use1 (mach_conz prog w loose mean mg mb z oz x t hx hzl) hdp hu B F X N T hk hU (fun p hp => by rw [List.mem_singleton.mp hp]; exact hz) (fun r o' more nw h' tk' F' N' hR hn => ?_) fun r mu' nw hR => ?_
  · refine ex_12 hR fun M S dS Fn c c2 cA cT d P A fd hR => ex_12 hR fun sl fF lF oc oc2 oA oT h1 h2 h3 h4 h5 hR => ex_11 hR fun t1 t2 t3 t4 t5 tl tw ti n3 n4 ps hR => ?_
    k_extra "g"
    obtain ⟨rfl, e, rfl, l, ch, rc⟩ := hR
    obtain ⟨rfl, rfl⟩ := one_eq e
    k_extra "h"
    refine ret ⟨M, S, dS, Fn, c, c2, cA, cT, d, P, A, fd, sl, fF, lF, oc, oc2, oA, oT, h1, h2, h3, h4, h5, t1, t2, t3, t4, t5, tw⟩ ps n3 n4 tl ti h' tk' F' (news_skip [_, _, _, _, _] _ N') l ch ?_
    intro ln i tl ti n4 hi
    exact rchar_con prog w loose mean mg mb x M S dS Fn c cA cT d P A fd sl fF lF oc oA oT h1 h2 h3 h4 h5 t1 t2 t3 t4 t5 tl tw ti n4 ln i hi ch rc
  · refine ex_12 hR fun M S dS Fn c c2 cA cT d P A fd hR => ex_12 hR fun sl fF lF oc oc2 oA oT h1 h2 h3 h4 h5 hR => ex_11 hR fun t1 t2 t3 t4 t5 tl tw ti n3 n4 ps hR => ?_
    k_extra "g"
    obtain ⟨_, e, _⟩ := hR
    k_extra "h"
    exact ⟨_, _, e⟩
end
theorem allNe_cons {a : Addr} {p : Addr × Obj} {r : Led} (h : @Ne Nat p.1 a) (t : AllNe a r) : AllNe a (p :: r) := ⟨h, t⟩
theorem allNe_app {a : Addr} : ∀ {l r : Led}, AllNe a l → AllNe a r → AllNe a (l ++ r)
  | [], _, _, h => h
  | _ :: _, _, h, h2 => ⟨h.1, allNe_app h.2 h2⟩
theorem news_take {h₀ h : Heap} {L : Addr} {big r : Led} {p : Addr × Obj} (N : News h₀ L h big) (hp : p ∈ big) (t : News h₀ L h r) : News h₀ L h (p :: r) := fun q hq => by
  k_extra "g"
  rcases List.mem_cons.mp hq with rfl | hq <;> k_extra "h"
  · exact N _ hp
  · exact t q hq
theorem ne9_m : Nonempty Mach := by
  have : Inhabited FuncData := inferInstance
  exact ⟨⟨0, 0, 0, 0, 0, 0, 0, 0, 0, 0, 0, default, #[], default, #[], default, default, default, default, 0, 0, 0, 0, 0, 0, 0, 0, 0, 0, 0⟩⟩
end
end
local macro_rules | `(tactic| walk_at "TC") => `(tactic| (intros; (rename Mach.chain _ => hch'; have hcu' := hch'; unfold Mach.chain Chain10 at hcu'); (try rename News _ _ _ _ => N'; dsimp only at N'); (try k_sweep)))
theorem wt9 : True := by (w_top off; exact trivial)
section
open L_P
section
variable (prog : Program) (w : World) (loose : List Str) (mean : ExcName → Option Value) (mg mb : Str → Option Value)
theorem push_con (M S P d : Addr) (h1 h2 h3 h4 : Int) (t1 t2 t3 t4 tl tw t : Tok) (n3 : Nat) (ln : Int) (vs : List Value) (x : Str) (hne : Chain3 d M P) (hsz : vs.length ≤ 40) :
    Con prog w loose mean mg mb 356 280 134 [.ref M, .str x t] [(M, instObj 137 d), (d, machDict h1 h2 h3 h4 t1 t2 t3 t4 ln tl S tw P)] [(P, W.listOf vs.toArray n3)]
      (fun r mu' nw => nw = [] ∧ ∃ t' n', mu' = [(P, W.listOf (vs ++ [Value.str x t']).toArray n')]) := by
  unfold Chain3 at hne
  k_extra "CON"
  k_extra "STEPSD"
  all_goals k_extra "LV"
  all_goals (refine end_cut 0 2 ?_ ?_ ?_)
  all_goals first | (dsimp only [List.take, List.drop]; exact ⟨rfl, _, _, rfl⟩) | (dsimp only [List.take, List.drop]; exact ⟨rfl, _, _, rfl, rfl⟩) | k_extra "SUBS" | k_extra "NES"
end
end
section
open L_P
section
variable (prog : Program) (w : World) (loose : List Str) (mean : ExcName → Option Value) (mg mb : Str → Option Value)
theorem pop_con (M S P d : Addr) (h1 h2 h3 h4 : Int) (t1 t2 t3 t4 tl tw t : Tok) (n3 : Nat) (ln : Int) (vs : List Value) (x : Str) (hne : Chain3 d M P) (hsz : vs.length ≤ 40) :
    Con prog w loose mean mg mb 356 280 127 [.ref M] [(M, instObj 137 d), (d, machDict h1 h2 h3 h4 t1 t2 t3 t4 ln tl S tw P)] [(P, W.listOf (Value.str x t :: vs).toArray n3)]
      (fun r mu' nw => nw = [] ∧ ∃ t' n', r = .str x t' ∧ mu' = [(P, W.listOf vs.toArray n')]) := by
  unfold Chain3 at hne
  k_extra "CON"
  k_extra "STEPSD"
  all_goals k_extra "LV"
  all_goals (refine end_cut 0 2 ?_ ?_ ?_)
  all_goals first | (dsimp only [List.take, List.drop]; exact ⟨rfl, _, _, rfl⟩) | (dsimp only [List.take, List.drop]; exact ⟨rfl, _, _, rfl, rfl⟩) | k_extra "SUBS" | k_extra "NES"
end
end
section
section
variable (prog : Program) (w : World) (loose : List Str) (mean : ExcName → Option Value) (mg mb : Str → Option Value)
noncomputable abbrev QS : Str := Str.ofString "_str_to_int_inner.<locals>.inner"
theorem sub_cons {a l : Led} {b : Addr × Obj} (h : ∀ p ∈ a, p ∈ l) : ∀ p ∈ a, p ∈ b :: l := fun p hp => .tail _ (h p hp)
section
variable {prog : Program} {w : World} {loose : List Str} {mean : ExcName → Option Value} {mg mb : Str → Option Value} {dp un : Nat} {big : Led} {g : Obj → Led} {g2 : Obj → Obj → Led}
  {gd : Option (List Code)} {cn : Str} {cs : Scope} {a : Addr} {ccd : Value} {cl : List (Str × Addr)} {outer : List Env} {A₀ : Around} {base h₀ : Heap} {L z c : Addr} {oz oc : Obj} {m : Str → Option Value} {s : Shared} {Q E : Value → Shared → Prop}
theorem tok_u {xs : List Str} {qs : List Int} {k n n3 n4 : Nat} {tl ti : Tok} {x0 : Str} {K : Mach} (hd : ∀ x ∈ xs, DigOk x) (h6 : xs.length ≤ 6) (hql : qs.length = xs.length) (hqr : ∀ q ∈ qs, 0 ≤ q ∧ q ≤ 2) (hk : k < xs.length) (hn : n = xs.length) (hx0 : xs.getD k (Str.ofString "") = x0) (hch : K.chain) (hrc : K.rch prog w loose mean mg mb (textF xs qs n))
    (hU : UpdF K.d (K.dict (lnF qs k) tl) big g) (hU2 : ∀ o, UpdF K.A (W.listOf #[.int ((posF xs qs k : Nat) : Int) ti] n4) (g o) (g2 o)) (hro : ∀ p ∈ K.ro, p ∈ big) (hP : (K.P, W.listOf #[] n3) ∈ big)
    (hdp : dp ≤ 356) (hu : un ≤ 280) (B : Below A₀ base outer h₀) (F : Fr h₀ L s.heap m) (X : (kf.heap_1 w.params).In h₀) (N : News h₀ L s.heap big) (T : Top topProg loose mean mg mb h₀) (hk' : cs.kind = .function)
    (ret : ∀ t' tl' ti' n4' h' tk', Fr h₀ L h' m → News h₀ L h' (g2 (K.dict (lnF qs (k + 1)) tl') (W.listOf #[.int ((posF xs qs (k + 1) : Nat) : Int) ti'] n4')) → Q (.str x0 t') { s with heap := h', toks := tk' }) :
    wpAny (model prog w) (ktrTop dp un gd cn cs L a ccd cl outer) (call (.ref 127) [.ref K.M]) Q E s := by
  k_extra "g"
  obtain ⟨M, S, dS, Fn, c, c2, cA, cT, d, P, A, fd, sl, fF, lF, oc, oc2, oA, oT, h1, h2, h3, h4, h5, t1, t2, t3, t4, t5, tw⟩ := K
  k_extra "h"
  dsimp only at *
  subst hn hx0
  refine wpAny_call <| con_use2n (tok_all prog w loose mean mg mb hd h6 hql hqr hk _ rfl M S dS Fn c cA cT d P A fd sl fF lF oc oA oT h1 h2 h3 h4 h5 t1 t2 t3 t4 t5 tl tw ti n3 n4 hch hrc) hdp hu B F X N T hk' hU hU2 (fun p hp => ?_) ?_ (fun r o' o2' nw h' tk' F' N' hR _ => ?_) fun r mu' nw hR => ?_
  · simp only [List.mem_cons, List.not_mem_nil, or_false] at hp
    k_extra "g"
    rcases hp with h | h | h | h | h | h | h | h <;> k_extra "h"
    · exact hro p (by rw [h]; exact .head _)
    · exact hro p (by rw [h]; exact .tail _ (.head _))
    · exact hro p (by rw [h]; exact mem_ix 2 rfl)
    · exact hro p (by rw [h]; exact mem_ix 3 rfl)
    · exact hro p (by rw [h]; exact mem_ix 4 rfl)
    · exact hro p (by rw [h]; exact mem_ix 5 rfl)
    · exact hro p (by rw [h]; exact mem_ix 6 rfl)
    · rw [h]; exact hP
  · unfold Mach.chain Chain10 at hch
    dsimp only at hch
    show @Ne Nat _ _
    omega
  · refine and_2 hR fun r1_ k_ => ex_4 k_ fun t' tl' ti' n4' k_ => and_2 k_ fun r2_ e => and_2 (two_eq e) fun r3_ r4_ => ?_
    repeat clear k_
    clear hR e
    subst r1_
    subst r2_
    subst r3_
    subst r4_
    exact ret t' tl' ti' n4' h' tk' F' N'
  · refine and_2 hR fun r1_ k_ => ex_4 k_ fun t' tl' ti' n4' k_ => and_2 k_ fun _ e => ?_
    subst r1_
    exact ⟨_, _, e⟩
theorem tokE_u {xs : List Str} {qs : List Int} {n n3 n4 : Nat} {tl ti : Tok} {K : Mach} (hd : ∀ x ∈ xs, DigOk x) (h6 : xs.length ≤ 6) (hn0 : 1 ≤ xs.length) (hn : n = xs.length) (hch : K.chain) (hrc : K.rch prog w loose mean mg mb (textF xs qs n))
    (hU : UpdF K.d (K.dict (lnF qs n) tl) big g) (hU2 : ∀ o, UpdF K.A (W.listOf #[.int ((posF xs qs n : Nat) : Int) ti] n4) (g o) (g2 o)) (hro : ∀ p ∈ K.ro, p ∈ big) (hP : (K.P, W.listOf #[] n3) ∈ big)
    (hdp : dp ≤ 356) (hu : un ≤ 280) (B : Below A₀ base outer h₀) (F : Fr h₀ L s.heap m) (X : (kf.heap_1 w.params).In h₀) (N : News h₀ L s.heap big) (T : Top topProg loose mean mg mb h₀) (hk' : cs.kind = .function)
    (ret : ∀ t' tl' o' h' tk', Fr h₀ L h' m → News h₀ L h' (g2 (K.dict (1 + (((n + 1) / 3 : Nat) : Int)) tl') o') → Q (.str (Str.ofString "") t') { s with heap := h', toks := tk' }) :
    wpAny (model prog w) (ktrTop dp un gd cn cs L a ccd cl outer) (call (.ref 127) [.ref K.M]) Q E s := by
  k_extra "g"
  obtain ⟨M, S, dS, Fn, c, c2, cA, cT, d, P, A, fd, sl, fF, lF, oc, oc2, oA, oT, h1, h2, h3, h4, h5, t1, t2, t3, t4, t5, tw⟩ := K
  k_extra "h"
  dsimp only at *
  subst hn
  refine wpAny_call <| con_use2n (tok_end prog w loose mean mg mb hd h6 hn0 _ rfl M S dS Fn c cA cT d P A fd sl fF lF oc oA oT h1 h2 h3 h4 h5 t1 t2 t3 t4 t5 tl tw ti n3 n4 hch hrc) hdp hu B F X N T hk' hU hU2 (fun p hp => ?_) ?_ (fun r o' o2' nw h' tk' F' N' hR _ => ?_) fun r mu' nw hR => ?_
  · simp only [List.mem_cons, List.not_mem_nil, or_false] at hp
    k_extra "g"
    rcases hp with h | h | h | h | h | h | h | h <;> k_extra "h"
    · exact hro p (by rw [h]; exact .head _)
    · exact hro p (by rw [h]; exact .tail _ (.head _))
    · exact hro p (by rw [h]; exact mem_ix 2 rfl)
    · exact hro p (by rw [h]; exact mem_ix 3 rfl)
    · exact hro p (by rw [h]; exact mem_ix 4 rfl)
    · exact hro p (by rw [h]; exact mem_ix 5 rfl)
    · exact hro p (by rw [h]; exact mem_ix 6 rfl)
    · rw [h]; exact hP
  · unfold Mach.chain Chain10 at hch
    dsimp only at hch
    show @Ne Nat _ _
    omega
  · refine and_2 hR fun r1_ k_ => ex_4 k_ fun t' tl' ti' n4' k_ => and_2 k_ fun r2_ e => and_2 (two_eq e) fun r3_ r4_ => ?_
    repeat clear k_
    clear hR e
    subst r1_
    subst r2_
    subst r3_
    subst r4_
    exact ret t' tl' _ h' tk' F' N'
  · refine and_2 hR fun r1_ k_ => ex_4 k_ fun t' tl' ti' n4' k_ => and_2 k_ fun _ e => ?_
    subst r1_
    exact ⟨_, _, e⟩
theorem ifs_u1 {x : Str} {n : Int} {t : Tok} (hb : 1 ≤ n ∧ n ≤ 36) (hx : x = showI n) (hz : (z, oz) ∈ big) (hzl : @LT.lt Nat _ 31 z) (hU : UpdF 31 (tabObj #[]) big g) (hdp : dp ≤ 350) (hu : un ≤ 260) (B : Below A₀ base outer h₀) (F : Fr h₀ L s.heap m) (X : (kf.heap_1 w.params).In h₀) (N : News h₀ L s.heap big) (T : Top topProg loose mean mg mb h₀) (hk : cs.kind = .function)
    (ret : ∀ c oc t' h' tk' dr', Fr h₀ L h' m → News h₀ L h' ((c, oc) :: g (tabIn c)) → @LT.lt Nat _ z c → CodeAs oc QS → Q (.int n t') { s with heap := h', toks := tk', drawn := dr' }) :
    wpAny (model prog w) (ktrTop dp un gd cn cs L a ccd cl outer) (call (.ref 43) [.str x t]) Q E s := by
  subst hx
  k_extra "g"
  obtain ⟨hd, hI, hrs, hrp⟩ := num_ok hb
  k_extra "h"
  refine wpAny_call <| conD_use1 (ifs_con prog w loose mean mg mb z z oz oz (tabObj #[]) (showI n) t n hzl (Nat.ne_of_gt hzl) (.inl rfl) (num_len hd) hI hrs hrp) hdp hu B F X N T hk hU (List.forall_mem_cons.mpr ⟨hz, List.forall_mem_cons.mpr ⟨hz, List.forall_mem_nil _⟩⟩) (fun r o' more nw h' tk' dr' F' N' hR hn => ?_) fun r mu' nw hR => ?_
  · obtain ⟨c, oc, t', rfl, e, ho, ⟨_, rfl, hl⟩ | ⟨e2, _⟩⟩ := hR
    · obtain ⟨rfl, rfl⟩ := one_eq e
      exact ret c oc t' h' tk' dr' F' N' hl ho
    · exact absurd e2 (by simp [tabObj])
  · k_extra "g"
    refine ex_3 hR fun c oc t' k_ => and_3 k_ fun _ e _ => ?_
    clear k_ hR
    k_extra "h"
    exact ⟨_, _, e⟩
theorem ifs_u2 {x : Str} {n : Int} {t : Tok} (hb : 1 ≤ n ∧ n ≤ 36) (hx : x = showI n) (ht : (31, tabIn c) ∈ big) (hc : (c, oc) ∈ big) (hzl : @LT.lt Nat _ 31 c) (ho : CodeAs oc QS) (hdp : dp ≤ 350) (hu : un ≤ 260) (B : Below A₀ base outer h₀) (F : Fr h₀ L s.heap m) (X : (kf.heap_1 w.params).In h₀) (N : News h₀ L s.heap big) (T : Top topProg loose mean mg mb h₀) (hk : cs.kind = .function)
    (ret : ∀ t' h' tk' dr', Fr h₀ L h' m → News h₀ L h' big → Q (.int n t') { s with heap := h', toks := tk', drawn := dr' }) :
    wpAny (model prog w) (ktrTop dp un gd cn cs L a ccd cl outer) (call (.ref 43) [.str x t]) Q E s := by
  subst hx
  k_extra "g"
  obtain ⟨hd, hI, hrs, hrp⟩ := num_ok hb
  k_extra "h"
  refine wpAny_call <| conD_use0 (conD_same prog w loose mean mg mb (ifs_con prog w loose mean mg mb c c oc oc (tabIn c) (showI n) t n hzl (Nat.ne_of_gt hzl) (.inr ⟨rfl, ho⟩) (num_len hd) hI hrs hrp) (ro2 := [(c, oc), (c, oc), (31, tabIn c)]) (fun r mu' nw hR => ?_) (fun p hp => hp) (fun p hp => hp)) hdp hu B F X N T hk (List.forall_mem_cons.mpr ⟨hc, List.forall_mem_cons.mpr ⟨hc, List.forall_mem_cons.mpr ⟨ht, List.forall_mem_nil _⟩⟩⟩) fun r mu' nw h' tk' dr' F' N' hR hn => ?_
  · obtain ⟨c', oc', t', _, rfl, _, ⟨e, _⟩ | ⟨_, _, rfl, _⟩⟩ := hR
    · exact absurd e (by simp [tabObj])
    · rfl
  · obtain ⟨_, c', oc', t', rfl, _, _, ⟨e, _⟩ | ⟨_, rfl, _⟩⟩ := hR
    · exact absurd e (by simp [tabObj])
    · exact ret t' h' tk' dr' F' N'
theorem push_u {K : Mach} {n3 : Nat} {ln : Int} {tl t : Tok} {pd : List Value} {x : Str} (hch : K.chain) (hsz : pd.length ≤ 40) (hM : (K.M, instObj 137 K.d) ∈ big) (hd : (K.d, K.dict ln tl) ∈ big) (hU : UpdF K.P (W.listOf pd.toArray n3) big g)
    (hdp : dp ≤ 356) (hu : un ≤ 280) (B : Below A₀ base outer h₀) (F : Fr h₀ L s.heap m) (X : (kf.heap_1 w.params).In h₀) (N : News h₀ L s.heap big) (T : Top topProg loose mean mg mb h₀) (hk' : cs.kind = .function)
    (ret : ∀ v t' n' h' tk', Fr h₀ L h' m → News h₀ L h' (g (W.listOf (pd ++ [Value.str x t']).toArray n')) → Q v { s with heap := h', toks := tk' }) :
    wpAny (model prog w) (ktrTop dp un gd cn cs L a ccd cl outer) (call (.ref 134) [.ref K.M, .str x t]) Q E s := by
  k_extra "g"
  obtain ⟨M, S, dS, Fn, c, c2, cA, cT, d, P, A, fd, sl, fF, lF, oc, oc2, oA, oT, h1, h2, h3, h4, h5, t1, t2, t3, t4, t5, tw⟩ := K
  k_extra "h"
  dsimp only at *
  refine wpAny_call <| con_use1 (push_con prog w loose mean mg mb M S P d h1 h2 h3 h4 t1 t2 t3 t4 tl tw t n3 ln pd x (by unfold Mach.chain Chain10 at hch; dsimp only at hch; unfold Chain3; omega) hsz) hdp hu B F X N T hk' hU (fun p hp => ?_) (fun r o' more nw h' tk' F' N' hR hn => ?_) fun r mu' nw hR => ?_
  · rcases List.mem_cons.mp hp with rfl | hp
    · exact hM
    · rw [List.mem_singleton.mp hp]; exact hd
  · k_extra "g"
    obtain ⟨rfl, t', n', e⟩ := hR
    k_extra "h"
    k_extra "g"
    obtain ⟨rfl, rfl⟩ := one_eq e
    k_extra "h"
    exact ret _ t' n' h' tk' F' N'
  · k_extra "g"
    obtain ⟨rfl, t', n', e⟩ := hR
    k_extra "h"
    exact ⟨_, _, e⟩
theorem pop_u {K : Mach} {n3 : Nat} {ln : Int} {tl t : Tok} {pd : List Value} {x : Str} (hch : K.chain) (hsz : pd.length ≤ 40) (hM : (K.M, instObj 137 K.d) ∈ big) (hd : (K.d, K.dict ln tl) ∈ big) (hU : UpdF K.P (W.listOf (Value.str x t :: pd).toArray n3) big g)
    (hdp : dp ≤ 356) (hu : un ≤ 280) (B : Below A₀ base outer h₀) (F : Fr h₀ L s.heap m) (X : (kf.heap_1 w.params).In h₀) (N : News h₀ L s.heap big) (T : Top topProg loose mean mg mb h₀) (hk' : cs.kind = .function)
    (ret : ∀ t' n' h' tk', Fr h₀ L h' m → News h₀ L h' (g (W.listOf pd.toArray n')) → Q (.str x t') { s with heap := h', toks := tk' }) :
    wpAny (model prog w) (ktrTop dp un gd cn cs L a ccd cl outer) (call (.ref 127) [.ref K.M]) Q E s := by
  k_extra "g"
  obtain ⟨M, S, dS, Fn, c, c2, cA, cT, d, P, A, fd, sl, fF, lF, oc, oc2, oA, oT, h1, h2, h3, h4, h5, t1, t2, t3, t4, t5, tw⟩ := K
  k_extra "h"
  dsimp only at *
  refine wpAny_call <| con_use1 (pop_con prog w loose mean mg mb M S P d h1 h2 h3 h4 t1 t2 t3 t4 tl tw t n3 ln pd x (by unfold Mach.chain Chain10 at hch; dsimp only at hch; unfold Chain3; omega) hsz) hdp hu B F X N T hk' hU (fun p hp => ?_) (fun r o' more nw h' tk' F' N' hR hn => ?_) fun r mu' nw hR => ?_
  · rcases List.mem_cons.mp hp with rfl | hp
    · exact hM
    · rw [List.mem_singleton.mp hp]; exact hd
  · k_extra "g"
    obtain ⟨rfl, t', n', rfl, e⟩ := hR
    k_extra "h"
    k_extra "g"
    obtain ⟨rfl, rfl⟩ := one_eq e
    k_extra "h"
    exact ret t' n' h' tk' F' N'
  · k_extra "g"
    obtain ⟨rfl, t', n', _, e⟩ := hR
    k_extra "h"
    exact ⟨_, _, e⟩
end
end
end
section
section
variable (prog : Program) (w : World) (loose : List Str) (mean : ExcName → Option Value) (mg mb : Str → Option Value)
def DivSt (o59 o66 : Obj) (ts : Led) : Prop := ∃ c1 oc1 c2 oc2, o59 = tabI2 c1 ∧ o66 = tabD2 c2 ∧ (c1, oc1) ∈ ts ∧ (c2, oc2) ∈ ts ∧ @LT.lt Nat _ 66 c1 ∧ @LT.lt Nat _ c1 c2 ∧ CodeAs oc1 QI ∧ CodeAs oc2 QD
section
variable {prog : Program} {w : World} {loose : List Str} {mean : ExcName → Option Value} {mg mb : Str → Option Value} {dp un D U f : Nat} {big : Led} {g : Obj → Led} {g2 : Obj → Obj → Led}
  {gd : Option (List Code)} {cn : Str} {cs : Scope} {a : Addr} {ccd : Value} {cl : List (Str × Addr)} {outer : List Env} {A₀ : Around} {base h₀ : Heap} {L z lt c c2 : Addr} {oz oc oc2 : Obj} {m : Str → Option Value} {s : Shared} {Q E : Value → Shared → Prop}
theorem div_u3 {x b r : Int} {t u : Tok} (C : Div2 prog w loose mean mg mb D U f x b r) (hzl : @LT.lt Nat _ 66 c2) (hl : @LE.le Nat _ c c2) (ht1 : (59, tabI2 c) ∈ big) (hc1 : (c, oc) ∈ big) (ht2 : (66, tabD2 c2) ∈ big) (hc2 : (c2, oc2) ∈ big) (ho1 : CodeAs oc QI) (ho2 : CodeAs oc2 QD) (hdp : dp ≤ D) (hu : un ≤ U) (B : Below A₀ base outer h₀) (F : Fr h₀ L s.heap m) (X : (kf.heap_1 w.params).In h₀) (N : News h₀ L s.heap big) (T : Top topProg loose mean mg mb h₀) (hk : cs.kind = .function)
    (ret : ∀ T q t1 t2 h' tk', Fr h₀ L h' m → News h₀ L h' ((T, tup2 q r t1 t2) :: big) → AllNe T big → Q (.ref T) { s with heap := h', toks := tk' }) :
    wpAny (model prog w) (ktrTop dp un gd cn cs L a ccd cl outer) (call (.ref f) [.int x t, .int b u]) Q E s := by
  refine wpAny_call <| con_use0 (C c2 c c2 oc2 oc oc2 t u hzl hl (Nat.le_refl _) ho1 ho2) hdp hu B F X N T hk (fun p hp => ?_) fun r mu' nw h' tk' F' N' hR hn => ?_
  · simp only [List.mem_cons, List.not_mem_nil, or_false] at hp
    k_extra "g"
    rcases hp with rfl | rfl | rfl | rfl | rfl <;> k_extra "h"
    · exact hc2
    · exact hc1
    · exact ht1
    · exact hc2
    · exact ht2
  · refine ex_4 hR fun T q t1 t2 k_ => and_4 k_ fun r1_ _ r2_ l => ?_
    clear k_ hR
    subst r1_
    subst r2_
    exact ret T q t1 t2 h' tk' F' N' hn.1
theorem div_uU {x b r : Int} {t u : Tok} {o59 o66 : Obj} {Y : Led} (C1 : Div1 prog w loose mean mg mb D U f x b r) (C2 : Div2 prog w loose mean mg mb D U f x b r) (hdv : (o59 = tabObj #[] ∧ o66 = tabObj #[]) ∨ DivSt o59 o66 Y) (hY : ∀ q ∈ Y, q ∈ big) (hz : (z, oz) ∈ big) (hzl : @LT.lt Nat _ 66 z) (hU : UpdF 59 o59 big g) (hU2 : ∀ o, UpdF 66 o66 (g o) (g2 o)) (hdp : dp ≤ D) (hu : un ≤ U) (B : Below A₀ base outer h₀) (F : Fr h₀ L s.heap m) (X : (kf.heap_1 w.params).In h₀) (N : News h₀ L s.heap big) (T : Top topProg loose mean mg mb h₀) (hk : cs.kind = .function)
    (ret : ∀ T q t1 t2 o59' o66' nn h' tk', Fr h₀ L h' m → News h₀ L h' ((T, tup2 q r t1 t2) :: (g2 o59' o66' ++ nn)) → AllNe T big → (∀ q ∈ nn, AllNe q.1 big) → DivSt o59' o66' (nn ++ Y) → Q (.ref T) { s with heap := h', toks := tk' }) :
    wpAny (model prog w) (ktrTop dp un gd cn cs L a ccd cl outer) (call (.ref f) [.int x t, .int b u]) Q E s := by
  k_extra "g"
  rcases hdv with ⟨rfl, rfl⟩ | ⟨c1, oc1, c2, oc2, rfl, rfl, m1, m2, l1, l2, h1, h2⟩ <;> k_extra "h"
  · refine wpAny_call <| con_use2n (C1 z oz t u hzl) hdp hu B F X N T hk hU hU2 (fun p hp => by rw [List.mem_singleton.mp hp]; exact hz) (by decide) (fun r o' o2' nw h' tk' F' N' hR hn => ?_) fun r mu' nw hR => ?_
    · refine ex_8 hR fun T q t1 t2 c1 oc1 c2 oc2 k_ => and_8 k_ fun r1_ e r2_ l1 l2 l3 h1 h2 => ?_
      clear k_ hR
      subst r1_
      subst r2_
      k_extra "g"
      obtain ⟨rfl, rfl⟩ := two_eq e
      k_extra "h"
      refine ret T q t1 t2 (tabI2 c1) (tabD2 c2) [(c2, oc2), (c1, oc1)] h' tk' F' (fun q hq => N' q ?_) hn.1 (List.forall_mem_cons.mpr ⟨hn.2.1, List.forall_mem_cons.mpr ⟨hn.2.2.1, List.forall_mem_nil _⟩⟩) ⟨c1, oc1, c2, oc2, rfl, rfl, .tail _ (.head _), .head _, Nat.lt_trans hzl l1, l2, h1, h2⟩
      k_extra "g"
      rcases List.mem_cons.mp hq with rfl | hq <;> k_extra "h"
      · exact .head _
      · rcases List.mem_append.mp hq with hq | hq
        · exact mem_dr 3 hq
        · exact List.mem_append_left _ (.tail _ hq)
    · refine ex_8 hR fun T q t1 t2 c1 oc1 c2 oc2 k_ => and_3 k_ fun _ e _ => ?_
      clear k_ hR
      exact ⟨_, _, e⟩
  · have e1 := updF_id hU
    have e2 := updF_id (hU2 (tabI2 c1))
    refine div_u3 C2 (Nat.lt_trans l1 l2) (Nat.le_of_lt l2) e1.2 (hY _ m1) (e1.1 ▸ e2.2) (hY _ m2) h1 h2 hdp hu B F X N T hk fun T q t1 t2 h' tk' F' N' hn => ret T q t1 t2 _ _ [] h' tk' F' ?_ hn (List.forall_mem_nil _) ⟨c1, oc1, c2, oc2, rfl, rfl, m1, m2, l1, l2, h1, h2⟩
    rw [List.append_nil, e2.1, e1.1]
    exact N'
theorem turned_u3 {cc k n : Nat} {t0 t1 t2 t : Tok} (hm : (lt, lightObj cc t0 t1 t2 n) ∈ big) (hc : cc < 6) (hk6 : k < 6) (hz : (z, oz) ∈ big) (hdp : dp ≤ 342) (hu : un ≤ 210) (B : Below A₀ base outer h₀) (F : Fr h₀ L s.heap m) (X : (kf.heap_1 w.params).In h₀) (N : News h₀ L s.heap big) (T : Top topProg loose mean mg mb h₀) (hk : cs.kind = .function)
    (ret : ∀ D u0 u1 u2 n' h' tk', Fr h₀ L h' m → News h₀ L h' ((D, lightObj ((cc + k) % 6) u0 u1 u2 n') :: big) → AllNe D big → Q (.ref D) { s with heap := h', toks := tk' }) :
    wpAny (model prog w) (ktrTop dp un gd cn cs L a ccd cl outer) (call (.ref 170) [.ref lt, .int (k : Int) t]) Q E s := by
  refine wpAny_call <| con_use0 (turned_con prog w loose mean mg mb z lt oz cc k n t0 t1 t2 t hc hk6) hdp hu B F X N T hk (fun p hp => ?_) fun r mu' nw h' tk' F' N' hR hn => ?_
  · simp only [List.mem_cons, List.not_mem_nil, or_false] at hp
    k_extra "g"
    rcases hp with rfl | rfl <;> k_extra "h"
    · exact hz
    · exact hm
  · refine ex_5 hR fun D u0 u1 u2 n' k_ => and_4 k_ fun r1_ _ r2_ hl => ?_
    clear k_ hR
    subst r1_
    subst r2_
    exact ret D u0 u1 u2 n' h' tk' F' N' hn.1
end
theorem LightAt.mono {ts ts' : Led} {v : Value} {c : Nat} (h : LightAt ts v c) (hs : ∀ p ∈ ts, p ∈ ts') : LightAt ts' v c := by
  k_extra "g"
  obtain ⟨h6, a, t0, t1, t2, n, rfl, hm⟩ := h
  k_extra "h"
  exact ⟨h6, a, t0, t1, t2, n, rfl, hs _ hm⟩
theorem lights_mono {ts ts' : Led} {vs : List Value} {cs : List Nat} (h : PySem.Paired (LightAt ts) vs cs) (hs : ∀ p ∈ ts, p ∈ ts') : PySem.Paired (LightAt ts') vs cs := by
  induction h with
  | nil => exact .nil
  | cons a _ ih => exact .cons (a.mono hs) ih
theorem zip_next {cs : List Nat} {ks : List (Nat × Nat)} {c : Nat} {k : Nat × Nat} (hc : cs[ks.length]? = some c) : List.zipWith (fun c (k : Nat × Nat) => (c + k.2) % 6) (cs.take (ks.length + 1)) (ks ++ [k]) = List.zipWith (fun c (k : Nat × Nat) => (c + k.2) % 6) (cs.take ks.length) ks ++ [(c + k.2) % 6] := by
  have hl : ks.length < cs.length := by
    by_cases q : ks.length < cs.length
    · exact q
    · rw [List.getElem?_eq_none (by omega)] at hc; cases hc
  rw [take_next hc, List.zipWith_append (by rw [List.length_take]; omega)]
  rfl
theorem allLt_mem {a : Addr} : ∀ {l : Led}, AllLt a l → ∀ p ∈ l, @LT.lt Nat _ p.1 a
  | [], _, _, hp => nomatch hp
  | q :: r, h, p, hp => by
    k_extra "g"
    rcases List.mem_cons.mp hp with rfl | hp <;> k_extra "h"
    · exact h.1
    · exact allLt_mem h.2 p hp
theorem allNe_appR {a : Addr} : ∀ {l r : Led}, AllNe a (l ++ r) → AllNe a r
  | [], _, h => h
  | _ :: _, _, h => allNe_appR h.2
theorem allNe_lt {a : Addr} {l : Led} (h : ∀ p ∈ l, @LT.lt Nat _ p.1 a) : AllNe a l := allNe_of fun p hp => Nat.ne_of_lt (h p hp)
theorem paired_snoc_take {α β : Type} {R : α → β → Prop} {ks : List α} {as : List β} {i : Nat} {a : β} {k : α} (h : PySem.Paired R ks (as.take i)) (ha : as[i]? = some a) (hr : R k a) : PySem.Paired R (ks ++ [k]) (as.take (i + 1)) := by
  rw [take_next ha]
  exact h.snoc hr
theorem allNe_ltI {a I : Addr} : ∀ {l : Led}, AllLt I l → @LT.lt Nat _ I a → AllNe a l
  | [], _, _ => trivial
  | _ :: _, h, hI => ⟨Nat.ne_of_lt (Nat.lt_trans h.1 hI), allNe_ltI h.2 hI⟩
end
end
section
theorem L_T_RN.ln9_T_RN : True := trivial
open L_P L_R L_T2 L_X L_U L_W L_Y L_Z L_Q L_N L_T_RN
section
variable (prog : Program) (w : World) (loose : List Str) (mean : ExcName → Option Value) (mg mb : Str → Option Value)
theorem kw9_RN_1 : True := by
  (k_with "lT_RN" => fail_if_success (fail_if_success (have h9 := ln9_T_RN)))
  (k_with "exec Assign cons Subscript" => (k_extra "lT_RN"; ((with_reducible show wpAny _ _ (exec (Stmt.Assign [Expr.Tuple _ _ _] _ _) _) _ _ _); refine Assign_Tuple ?_ (by first | kernel_rfl | rfl) (by first | kernel_rfl | rfl))))
  trivial
theorem DivSt.mono {o59 o66 : Obj} {ts ts' : Led} (h : DivSt o59 o66 ts) (hs : ∀ q ∈ ts, q ∈ ts') : DivSt o59 o66 ts' :=
  h.elim fun c1 h => h.elim fun oc1 h => h.elim fun c2 h => h.elim fun oc2 h => ⟨c1, oc1, c2, oc2, h.1, h.2.1, hs _ h.2.2.1, hs _ h.2.2.2.1, h.2.2.2.2⟩
theorem strs_cons {l : List Value} {a : Str} {as : List Str} (h : StrsAre l (a :: as)) : ∃ t r, l = .str a t :: r ∧ StrsAre r as := by
  cases h with
  | cons _ t h => exact ⟨t, _, rfl, h⟩
namespace round_con
noncomputable section
def Claim9 (prog : Program) (w : World) (loose : List Str) (mean : ExcName → Option Value) (mg mb : Str → Option Value) (K : Mach) (SP TD LG c : Addr) (oz od oc o59 o66 : Obj) (p u num : Int) (kvs : List (Int × Value)) (ts : Led) (pv lv pd : List Value) (xs as : List Int) (cs : List Nat) (pc lc n3 : Nat) (ln : Int) (tl t t' : Tok) : Prop := ∀ (hch : K.chain) (hp : PrimeOk p) (hpI : IntsAre pv xs) (hxl : xs.length ≤ 6) (hxb : ∀ y ∈ xs, 1 ≤ y ∧ y ≤ 36) (hnum : 1 ≤ num ∧ num ≤ 36) (hd : od.IsDictOf (intKind prog w) kvs) (hcov : ∀ y ∈ xs, TabHas kvs ts xs u p ((num * y).fmod p)) (hal : as.length = cs.length) (ha6 : 1 ≤ as.length ∧ as.length ≤ 6) (haS : ∀ y ∈ as, y ∈ xs) (hpd : StrsAre pd (as.map showI)) (hlv : PySem.Paired (LightAt ts) lv cs) (hdiv : (o59 = tabObj #[] ∧ o66 = tabObj #[]) ∨ DivSt o59 o66 ts) (h31 : (c, oc) ∈ ts) (hc31 : @LT.lt Nat _ 31 c) (hoc : CodeAs oc QS) (hP : AllNe K.P ts) (h59 : AllNe 59 ts) (h66 : AllNe 66 ts) (hlt : @LT.lt Nat _ 66 SP ∧ @LT.lt Nat _ SP K.cT) (hTD0 : (TD, od) ∈ ts) (hLG0 : (LG, W.listOf lv.toArray lc) ∈ ts), ConD prog w loose mean mg mb 335 160 184 [.ref K.M, .int p t, .ref TD, .ref SP, .int num t', .ref LG] ((K.M, instObj 137 K.d) :: (K.d, K.dict ln tl) :: (SP, W.listOf pv.toArray pc) :: (31, tabIn c) :: ts) [(K.P, W.listOf pd.toArray n3), (59, o59), (66, o66)]
      (fun r mu' nw => ∃ D mv n pd' n3' o59' o66' nl kjs, r = .ref D ∧ mu' = [(K.P, W.listOf (pd' : List Value).toArray n3'), (59, o59'), (66, o66')] ∧ nw = (D, W.listOf (mv : List Value).toArray n) :: nl ∧ DivSt o59' o66' (nl ++ ts) ∧
        PySem.Paired (LightAt (nl ++ ts)) mv (List.zipWith (fun c (k : Nat × Nat) => (c + k.2) % 6) cs kjs) ∧ PySem.Paired (fun (kj : Nat × Nat) a => At xs u p ((num * a).fmod p) kj.1 kj.2) kjs as ∧ StrsAre pd' ((kjs.map fun kj => xs.getD kj.1 0).map showI))
abbrev T9 : Type := ((((((Program × World) × (List Str)) × ((ExcName → Option Value) × (Str → Option Value))) × (((Str → Option Value) × Mach) × (Addr × Addr))) × (((Addr × Addr) × (Obj × Obj)) × ((Obj × Obj) × (Obj × Int)))) × (((((Int × Int) × (List (Int × Value))) × (Led × (List Value))) × (((List Value) × (List Value)) × ((List Int) × (List Int)))) × ((((List Nat) × Nat) × (Nat × Nat)) × ((Int × Tok) × (Tok × Tok)))))
def U9 (t : T9) : Prop := Claim9 t.1.1.1.1.1.1 t.1.1.1.1.1.2 t.1.1.1.1.2 t.1.1.1.2.1 t.1.1.1.2.2 t.1.1.2.1.1 t.1.1.2.1.2 t.1.1.2.2.1 t.1.1.2.2.2 t.1.2.1.1.1 t.1.2.1.1.2 t.1.2.1.2.1 t.1.2.1.2.2 t.1.2.2.1.1 t.1.2.2.1.2 t.1.2.2.2.1 t.1.2.2.2.2 t.2.1.1.1.1.1 t.2.1.1.1.1.2 t.2.1.1.1.2 t.2.1.1.2.1 t.2.1.1.2.2 t.2.1.2.1.1 t.2.1.2.1.2 t.2.1.2.2.1 t.2.1.2.2.2 t.2.2.1.1.1 t.2.2.1.1.2 t.2.2.1.2.1 t.2.2.1.2.2 t.2.2.2.1.1 t.2.2.2.1.2 t.2.2.2.2.1 t.2.2.2.2.2
@[irreducible] def v9 : T9 := ch9 (by k_extra "NE") U9
theorem spec9 : U9 v9 → ∀ t, U9 t := by with_unfolding_all exact sp9 _ U9
theorem core9 : U9 v9 := by
  refine (let prog := v9.1.1.1.1.1.1; let w := v9.1.1.1.1.1.2; let loose := v9.1.1.1.1.2; let mean := v9.1.1.1.2.1; let mg := v9.1.1.1.2.2; let mb := v9.1.1.2.1.1; let K := v9.1.1.2.1.2; let SP := v9.1.1.2.2.1; let TD := v9.1.1.2.2.2; let LG := v9.1.2.1.1.1; let c := v9.1.2.1.1.2; let oz := v9.1.2.1.2.1; let od := v9.1.2.1.2.2; let oc := v9.1.2.2.1.1; let o59 := v9.1.2.2.1.2; let o66 := v9.1.2.2.2.1; let p := v9.1.2.2.2.2; let u := v9.2.1.1.1.1.1; let num := v9.2.1.1.1.1.2; let kvs := v9.2.1.1.1.2; let ts := v9.2.1.1.2.1; let pv := v9.2.1.1.2.2; let lv := v9.2.1.2.1.1; let pd := v9.2.1.2.1.2; let xs := v9.2.1.2.2.1; let as := v9.2.1.2.2.2; let cs := v9.2.2.1.1.1; let pc := v9.2.2.1.1.2; let lc := v9.2.2.1.2.1; let n3 := v9.2.2.1.2.2; let ln := v9.2.2.2.1.1; let tl := v9.2.2.2.1.2; let t := v9.2.2.2.2.1; let t' := v9.2.2.2.2.2; (?_ : Claim9 prog w loose mean mg mb K SP TD LG c oz od oc o59 o66 p u num kvs ts pv lv pd xs as cs pc lc n3 ln tl t t'))
  clear_value prog w loose mean mg mb K SP TD LG c oz od oc o59 o66 p u num kvs ts pv lv pd xs as cs pc lc n3 ln tl t t'
  intro hch hp hpI hxl hxb hnum hd hcov hal ha6 haS hpd hlv hdiv h31 hc31 hoc hP h59 h66 hlt hTD0 hLG0
  have hpl := hpI.length
  have hll := hlv.length
  have hcu := hch
  unfold Mach.chain Chain10 at hcu
  have S9 : Srt [31, 59, 66, SP, K.cT, K.cA, K.A, K.c, K.Fn, K.S, K.dS, K.d, K.M, K.P] := srt_c (by decide) <| srt_c (by decide) <| srt_c (hlt.1) <| srt_c (hlt.2) <| srt_c (hcu.1) <| srt_c (hcu.2.1) <| srt_c (hcu.2.2.1) <| srt_c (hcu.2.2.2.1) <| srt_c (hcu.2.2.2.2.1) <| srt_c (hcu.2.2.2.2.2.1) <| srt_c (hcu.2.2.2.2.2.2.1) <| srt_c (hcu.2.2.2.2.2.2.2.1) <| srt_c (hcu.2.2.2.2.2.2.2.2) <| srt_1
  k_extra "g"
  obtain ⟨p1, p2, p3, p4⟩ := primeOk_bits hp
  k_extra "h"
  unfold ConD
  intro gd cn cs' a ccd cl outer A₀ base h₀ L m s Q E B F X N T hk hret
  have N1 : News h₀ L s.heap ((K.P, W.listOf pd.toArray n3) :: (59, o59) :: (66, o66) :: (K.M, instObj 137 K.d) :: (K.d, K.dict ln tl) :: (SP, W.listOf pv.toArray pc) :: (31, tabIn c) :: ts) := news_flip N
  k_dflt k_extra "ENTER"
  have kG2 : ∀ b o, s.heap.get? b = some o → b ∉ adr (((K.M, instObj 137 K.d) :: (K.d, K.dict ln tl) :: (SP, W.listOf pv.toArray pc) :: (31, tabIn c) :: ts) ++ [(K.P, W.listOf pd.toArray n3), (59, o59), (66, o66)]) → g'.get? b = some o := kG_flip (mu := [_, _, _]) kG'
  k_extra "TOIT"
  rename_i MV h1 lMV h2 F1 N9
  clear N1 S9
  have S9 : Srt [31, 59, 66, SP, K.cT, K.cA, K.A, K.c, K.Fn, K.S, K.dS, K.d, K.M, K.P, MV] := srt_c (by decide) <| srt_c (by decide) <| srt_c (hlt.1) <| srt_c (hlt.2) <| srt_c (hcu.1) <| srt_c (hcu.2.1) <| srt_c (hcu.2.2.1) <| srt_c (hcu.2.2.2.1) <| srt_c (hcu.2.2.2.2.1) <| srt_c (hcu.2.2.2.2.2.1) <| srt_c (hcu.2.2.2.2.2.2.1) <| srt_c (hcu.2.2.2.2.2.2.2.1) <| srt_c (hcu.2.2.2.2.2.2.2.2) <| srt_c (lMV.1) <| srt_1
  have hasl := strs_len hpd
  rw [List.length_map] at hasl
  k_extra "g"
  obtain ⟨J, hJdi, hJdo⟩ := opq3 (fun (i : Nat) (m : Str → Option Value) (led : Led) => ∃ o59' o66' nl pd' n3' mv mc kjs tn tp, m (Str.ofString "machine") = some (.ref K.M) ∧ m (Str.ofString "prime") = some (.int p tp) ∧ m (Str.ofString "table") = some (.ref TD) ∧ m (Str.ofString "speakers") = some (.ref SP) ∧ m (Str.ofString "number") = some (.int num tn) ∧ m (Str.ofString "moved") = some (.ref MV) ∧
      led = (MV, W.listOf (mv : List Value).toArray mc) :: (K.P, W.listOf (pd' : List Value).toArray n3') :: (59, o59') :: (66, o66') :: (K.M, instObj 137 K.d) :: (K.d, K.dict ln tl) :: (SP, W.listOf pv.toArray pc) :: (31, tabIn c) :: (nl ++ ts) ∧
      ((i = 0 ∧ nl = [] ∧ o59' = tabObj #[] ∧ o66' = tabObj #[]) ∨ DivSt o59' o66' (nl ++ ts)) ∧ kjs.length = i ∧ PySem.Paired (fun (kj : Nat × Nat) a => At xs u p ((num * a).fmod p) kj.1 kj.2) kjs (as.take i) ∧
      PySem.Paired (LightAt (nl ++ ts)) mv (List.zipWith (fun c (k : Nat × Nat) => (c + k.2) % 6) (cs.take i) kjs) ∧ StrsAre pd' ((as.drop i ++ kjs.map fun kj => xs.getD kj.1 0).map showI) ∧
      (∀ q ∈ nl, AllNe q.1 ((MV, oz) :: (K.P, oz) :: (59, oz) :: (66, oz) :: (K.M, oz) :: (K.d, oz) :: (SP, oz) :: (31, oz) :: ts)))
  k_extra "h"
  refine owit_list (vs := lv) (ax := LG) (c := lc) (Dr := fun _ => True) J rfl F1 N9 (mem_dr 8 hLG0) (by omega) trivial ?hJ ?turn ?fin
  case hJ =>
    refine hJdi _ _ _ ?_
    refine exI_10 o59 o66 [] pd _ [] _ [] _ _ ⟨rfl, rfl, rfl, rfl, rfl, rfl, rfl, ?_, rfl, .nil, by simpa using PySem.Paired.nil, by simpa using hpd, fun _ h => nomatch h⟩
    k_extra "g"
    rcases hdiv with h | h <;> k_extra "h"
    · exact .inl ⟨rfl, rfl, h.1, h.2⟩
    · exact .inr h
  case turn =>
    intro i x h tk dr m' led I it hx hi hdr F2 N2 off hIl hS hJ
    replace hJ := hJdo _ _ _ hJ
    refine ex_10 hJ ?_; clear hJ; intro o59' o66' nl pd' n3' mv mc kjs tn tp hJ
    refine and_13 hJ ?_; clear hJ; intro e1 e2 e3 e4 e5 e6 hled hdv hkl hkp hmv hpd' hnl
    rw [hled] at N2 off
    (try rw [hled] at hIl)
    clear hled
    clear hS
    have F3 := fr_know6 F2 e1 e2 e3 e4 e5 e6
    clear F2 e1 e2 e3 e4 e5 e6 F1 N9
    k_extra "g"
    refine ex_1 (light_at (lights_mono hlv (fun q hq => List.mem_append.mpr (.inr hq) : ∀ q ∈ ts, q ∈ nl ++ ts)) i x hx) fun cl0 k_ => and_3 k_ fun hcl hcl6 k_ => ex_5 k_ fun lx v0 v1 v2 nx k_ => and_2 k_ fun r1_ hmx => ?_
    repeat clear k_
    subst r1_
    have hia : i < as.length := by omega
    obtain ⟨y, hy⟩ : ∃ y, as[i]? = some y := ⟨_, List.getElem?_eq_getElem hia⟩
    have hyS := haS y (List.mem_of_getElem? hy)
    have hyb := hxb y hyS
    k_extra "g"
    refine ex_5 (hcov y hyS) fun T t1 t2 k j k_ => and_3 k_ fun hl hmT0 hAt => ?_
    repeat clear k_
    k_extra "h"
    have hmT : (T, tup2 ((k : Nat) : Int) ((j : Nat) : Int) t1 t2) ∈ nl ++ ts := List.mem_append.mpr (.inr hmT0)
    have hTDm : (TD, od) ∈ nl ++ ts := List.mem_append.mpr (.inr hTD0)
    have hc31m : (c, oc) ∈ nl ++ ts := List.mem_append.mpr (.inr h31)
    have hk6 : k < xs.length := hAt.1
    have hj6 : j < 6 := hAt.2.1
    have hbd : -2 ^ 20 ≤ num * y ∧ num * y < 2 ^ 20 := by
      have a1 : 0 ≤ num * y := Int.mul_nonneg (by omega) (by omega)
      have a2 : num * y ≤ 36 * 36 := Int.mul_le_mul hnum.2 hyb.2 (by omega) (by decide)
      omega
    have hsk : 1 ≤ xs.getD ((k : Nat) : Int).toNat 0 ∧ xs.getD ((k : Nat) : Int).toNat 0 ≤ 36 := hxb _ (show xs.getD ((k : Nat) : Int).toNat 0 ∈ xs from by
      rw [Int.toNat_natCast, List.getD_eq_getElem?_getD, List.getElem?_eq_getElem hk6]
      exact List.getElem_mem _)
    rw [List.drop_eq_getElem_cons hia, List.cons_append, List.map_cons] at hpd'
    have hye : as[i] = y := by rw [List.getElem?_eq_getElem hia] at hy; exact Option.some.inj hy
    rw [hye] at hpd'
    generalize hrest : as.drop (i + 1) = ar at hpd'
    k_extra "g"
    obtain ⟨tq, pd2, hpe, hpd2⟩ := strs_cons hpd'
    k_extra "h"
    k_extra "h"
    rw [hpe] at N2
    clear hpe hpd'
    have hpd2l := strs_len hpd2
    rw [List.length_map, List.length_append, List.length_map, ← hrest, List.length_drop] at hpd2l
    have hmvl := hmv.length
    rw [List.length_zipWith, List.length_take] at hmvl
    have hz1 : mv.length ≤ 1000 := by omega
    have hz2 : pd2.length ≤ 40 := by omega
    have hPn : AllNe K.P (nl ++ ts) := allNe_app (allNe_of fun q hq => Ne.symm (hnl q hq).2.1) hP
    have h59n : AllNe 59 (nl ++ ts) := allNe_app (allNe_of fun q hq => Ne.symm (hnl q hq).2.2.1) h59
    have h66n : AllNe 66 (nl ++ ts) := allNe_app (allNe_of fun q hq => Ne.symm (hnl q hq).2.2.2.1) h66
    have hMVts : AllNe MV ts := allNe_lt (allLt_mem lMV.2.2.2.2.2.2.2)
    have hMVn : AllNe MV (nl ++ ts) := allNe_app (allNe_of fun q hq => Ne.symm (hnl q hq).1) hMVts
    k_lt hIl
    have hIts := allLt_mem hIl.2.2.2.2.2.2.2.2
    (try dsimp only)
    have hdv' : (o59' = tabObj #[] ∧ o66' = tabObj #[]) ∨ DivSt o59' o66' (nl ++ ts) := hdv.imp (fun h => h.2.2) id
    have C1 := idm_1 prog w loose mean mg mb hp hbd
    have C2 := idm_2 prog w loose mean mg mb hp hbd
    (first | (refine opq_turn ?_; intro QT9 hT9) | (refine opq_V ?_; intro QT9 hT9))
    repeat' (first | ((fail_if_success (with_reducible show wpAny _ _ (call (Value.ref 85) [_, _]) _ _ _)); k_extra "STEP1"))
    k_dflt (refine' div_uU C1 C2 hdv' ?hY (.head _) ?hzl ?hU ?hU2 (Nat.le_of_ble_eq_true rfl) (Nat.le_of_ble_eq_true rfl) ?k1 ?k2 ?k3 ?k4 ?k5 ?k6 ?_; (case k4 => k_asm); (case k1 => k_asm); (case k2 => k_asm); (case k3 => k_asm); (case k5 => k_asm); (case k6 => first | exact rfl | assumption); (case hzl => omega); (case hU => k_updF); (case hU2 => intro o; k_updF); (case hY => exact fun q hq => mem_dr 9 hq))
    intro T9 q9 ta9 tb9 o59n o66n nn h9 tk9 F9 N9 hnT hnn hdn
    dsimp only [List.cons_append] at N9
    k_extra "g"
    obtain ⟨TT, hTT⟩ := opq ((nl ++ ts) ++ nn)
    k_extra "h"
    rw [← hTT] at N9
    have hsub : ∀ q ∈ nl ++ ts, q ∈ TT := fun q hq => hTT ▸ List.mem_append_left _ hq
    have hsub2 : ∀ q ∈ (nn ++ nl) ++ ts, q ∈ TT := fun q hq => by
      rw [List.append_assoc] at hq
      exact hTT ▸ List.mem_append.mpr (List.mem_append.mp hq).symm
    have hTD2 := hsub _ hTDm
    have hmT2 := hsub _ hmT
    have hc312 := hsub _ hc31m
    have hmx2 := hsub _ hmx
    have hP2 : AllNe K.P TT := hTT ▸ allNe_app hPn (allNe_of fun q hq => Ne.symm (hnn q hq).2.2.1)
    have hMV2 : AllNe MV TT := hTT ▸ allNe_app hMVn (allNe_of fun q hq => Ne.symm (hnn q hq).2.1)
    have nP9 : @Ne Nat T9 K.P := Ne.symm hnT.2.2.1
    have nM9 : @Ne Nat T9 MV := Ne.symm hnT.2.1
    have nI9 : @Ne Nat T9 I := Ne.symm hnT.1
    clear hTDm hmT hc31m hmx hPn hMVn hnT
    k_extra "STEPSD"
    rename_i h10 h11 h12 t10 t11 tk11 v9 t12 n9 h13 tk12 D9 u0 u1 u2 n10 h14 tk13 hn h15 F9 NB
    have hD9 := hn.2.2
    have e3 : (nn ++ nl) ++ ts = nn ++ (nl ++ ts) := List.append_assoc nn nl ts
    have hX3 : ∀ q ∈ nn ++ (nl ++ ts), q ∈ ((D9, lightObj ((cl0 + j) % 6) u0 u1 u2 n10) :: (nn ++ nl)) ++ ts := fun q hq => List.mem_cons_of_mem _ (show q ∈ (nn ++ nl) ++ ts from e3 ▸ hq)
    refine exI_5 _ _ _ _ ((MV, W.listOf (mv ++ [Value.ref D9]).toArray ?mc2) :: (K.P, W.listOf (pd2 ++ [Value.str (showI (xs.getD ((k : Nat) : Int).toNat 0)) ?tz2]).toArray ?n32) :: (59, o59n) :: (66, o66n) :: (K.M, instObj 137 K.d) :: (K.d, K.dict ln tl) :: (SP, W.listOf pv.toArray pc) :: (31, tabIn c) :: (((D9, lightObj ((cl0 + j) % 6) u0 u1 u2 n10) :: (nn ++ nl)) ++ ts)) ⟨rfl, trivial, F9, ?nn2, ?oo2, ⟨lc, .tail _ (.tail _ (.tail _ (.tail _ (.tail _ (.tail _ (.tail _ (.tail _ (List.mem_append.mpr (.inr hLG0)))))))))⟩, ?jj2⟩
    case nn2 =>
      repeat' (first | ((refine news_take NB ?_ ?_); focus ((repeat (first | exact .head _ | apply List.Mem.tail)); done)))
      exact fun q hq => NB q (mem_dr 11 (hsub2 q hq))
    case oo2 => exact ⟨off.1, off.2.1, off.2.2.1, off.2.2.2.1, off.2.2.2.2.1, off.2.2.2.2.2.1, off.2.2.2.2.2.2.1, off.2.2.2.2.2.2.2.1, Ne.symm hn.2.1, (show AllNe _ ((nn ++ nl) ++ ts) from e3 ▸ allNe_app (allNe_of fun q hq => Ne.symm (hnn q hq).1) off.2.2.2.2.2.2.2.2)⟩
    refine hJdi _ _ _ ?_
    refine exI_10 o59n o66n ((D9, lightObj ((cl0 + j) % 6) u0 u1 u2 n10) :: (nn ++ nl)) _ _ _ _ (kjs ++ [(k, j)]) _ _ ⟨rfl, rfl, rfl, rfl, rfl, rfl, rfl, .inr (hdn.mono hX3), by simp [hkl], paired_snoc_take hkp hy hAt, ?ll2, ?pp2, ?qq2⟩
    case ll2 =>
      rw [← hkl, zip_next (by rw [hkl]; exact hcl), hkl]
      exact (lights_mono hmv (fun q hq => hX3 q (List.mem_append_right _ hq))).snoc ⟨Nat.mod_lt _ (by decide), D9, u0, u1, u2, n10, rfl, .head _⟩
    case pp2 =>
      (try rw [hrest])
      rw [show (kjs ++ [(k, j)]).map (fun kj => xs.getD kj.1 0) = kjs.map (fun kj => xs.getD kj.1 0) ++ [xs.getD k 0] from by simp, ← List.append_assoc, List.map_append]
      exact strs_app hpd2
    case qq2 =>
      refine List.forall_mem_cons.mpr ⟨⟨hD9.1, hD9.2.1, hD9.2.2.1, hD9.2.2.2.1, hD9.2.2.2.2.1, hD9.2.2.2.2.2.1, hD9.2.2.2.2.2.2.1, hD9.2.2.2.2.2.2.2.1, allNe_of fun q hq => allNe_to hD9.2.2.2.2.2.2.2.2 q (hsub q (List.mem_append_right _ hq))⟩, fun q hq => (List.mem_append.mp hq).elim (fun hq => ?_) (hnl q)⟩
      have hq2 := (hnn q hq).2
      exact ⟨hq2.1, hq2.2.1, hq2.2.2.1, hq2.2.2.2.1, hq2.2.2.2.2.1, hq2.2.2.2.2.2.1, hq2.2.2.2.2.2.2.1, hq2.2.2.2.2.2.2.2.1, allNe_appR hq2.2.2.2.2.2.2.2.2⟩
  case fin =>
    intro h tk dr m' led hdr F2 N2 hS hJ
    replace hJ := hJdo _ _ _ hJ
    refine ex_10 hJ ?_; clear hJ; intro o59' o66' nl pd' n3' mv mc kjs tn tp hJ
    refine and_13 hJ ?_; clear hJ; intro e1 e2 e3 e4 e5 e6 hled hdv hkl hkp hmv hpd' hnl
    rw [hled] at N2
    clear hled
    clear hS F1 N9
    have F3 := fr_know F2 e6
    clear F2
    have hv : DivSt o59' o66' (nl ++ ts) := hdv.resolve_left (fun h => by omega)
    rw [List.take_of_length_le (by omega)] at hkp hmv
    rw [List.drop_of_length_le (by omega), List.nil_append] at hpd'
    (try dsimp only)
    k_extra "STEPSD"
    (try dsimp only)
    k_extra "LVD"
    refine end_pick [(K.P, W.listOf pd'.toArray n3'), (59, o59'), (66, o66')] ((MV, W.listOf mv.toArray mc) :: nl) (exI_9 MV mv mc pd' n3' o59' o66' nl kjs ⟨rfl, rfl, rfl, hv, hmv, hkp, hpd'⟩) ?ro ?mu ?nw ?ne
    case ro =>
      repeat (refine List.forall_mem_cons.mpr ⟨by (repeat (first | exact .head _ | apply List.Mem.tail)), ?_⟩)
      exact fun q hq => .tail _ (.tail _ (.tail _ (.tail _ (.tail _ (.tail _ (.tail _ (.tail _ (List.mem_append.mpr (.inr hq)))))))))
    case mu => k_extra "SUBS"
    case nw => exact List.forall_mem_cons.mpr ⟨.head _, fun q hq => .tail _ (.tail _ (.tail _ (.tail _ (.tail _ (.tail _ (.tail _ (.tail _ (List.mem_append.mpr (.inl hq)))))))))⟩
    case ne =>
      have hMVb : AllNe MV ((K.P, oz) :: (59, oz) :: (66, oz) :: (K.M, oz) :: (K.d, oz) :: (SP, oz) :: (31, oz) :: ts) := allNe_of fun q hq => Nat.ne_of_lt (allLt_mem (l := (K.P, oz) :: (59, oz) :: (66, oz) :: (K.M, oz) :: (K.d, oz) :: (SP, oz) :: (31, oz) :: ts) lMV q hq)
      have key : ∀ q ∈ (MV, W.listOf mv.toArray mc) :: nl, AllNe q.1 ((K.P, oz) :: (59, oz) :: (66, oz) :: (K.M, oz) :: (K.d, oz) :: (SP, oz) :: (31, oz) :: ts) := List.forall_mem_cons.mpr ⟨hMVb, fun q hq => (hnl q hq).2⟩
      refine nwNe_of fun q hq r hr => ?_
      have kq := key q hq
      simp only [List.mem_append, List.mem_cons, List.cons_append, List.not_mem_nil, or_false] at hr
      k_extra "g"
      rcases hr with rfl | rfl | rfl | rfl | h | rfl | rfl | rfl <;> k_extra "h"
      · exact kq.2.2.2.1
      · exact kq.2.2.2.2.1
      · exact kq.2.2.2.2.2.1
      · exact kq.2.2.2.2.2.2.1
      · exact allNe_to kq.2.2.2.2.2.2.2 r h
      · exact kq.1
      · exact kq.2.1
      · exact kq.2.2.1
end
end round_con
theorem round_con (K : Mach) (SP TD LG c : Addr) (oz od oc o59 o66 : Obj) (p u num : Int) (kvs : List (Int × Value)) (ts : Led) (pv lv pd : List Value) (xs as : List Int) (cs : List Nat) (pc lc n3 : Nat) (ln : Int) (tl t t' : Tok)
    (hch : K.chain) (hp : PrimeOk p) (hpI : IntsAre pv xs) (hxl : xs.length ≤ 6) (hxb : ∀ y ∈ xs, 1 ≤ y ∧ y ≤ 36) (hnum : 1 ≤ num ∧ num ≤ 36) (hd : od.IsDictOf (intKind prog w) kvs) (hcov : ∀ y ∈ xs, TabHas kvs ts xs u p ((num * y).fmod p))
    (hal : as.length = cs.length) (ha6 : 1 ≤ as.length ∧ as.length ≤ 6) (haS : ∀ y ∈ as, y ∈ xs) (hpd : StrsAre pd (as.map showI)) (hlv : PySem.Paired (LightAt ts) lv cs)
    (hdiv : (o59 = tabObj #[] ∧ o66 = tabObj #[]) ∨ DivSt o59 o66 ts) (h31 : (c, oc) ∈ ts) (hc31 : @LT.lt Nat _ 31 c) (hoc : CodeAs oc QS) (hP : AllNe K.P ts) (h59 : AllNe 59 ts) (h66 : AllNe 66 ts)
    (hlt : @LT.lt Nat _ 66 SP ∧ @LT.lt Nat _ SP K.cT) (hTD0 : (TD, od) ∈ ts) (hLG0 : (LG, W.listOf lv.toArray lc) ∈ ts) :
    ConD prog w loose mean mg mb 335 160 184 [.ref K.M, .int p t, .ref TD, .ref SP, .int num t', .ref LG] ((K.M, instObj 137 K.d) :: (K.d, K.dict ln tl) :: (SP, W.listOf pv.toArray pc) :: (31, tabIn c) :: ts) [(K.P, W.listOf pd.toArray n3), (59, o59), (66, o66)]
      (fun r mu' nw => ∃ D mv n pd' n3' o59' o66' nl kjs, r = .ref D ∧ mu' = [(K.P, W.listOf (pd' : List Value).toArray n3'), (59, o59'), (66, o66')] ∧ nw = (D, W.listOf (mv : List Value).toArray n) :: nl ∧ DivSt o59' o66' (nl ++ ts) ∧
        PySem.Paired (LightAt (nl ++ ts)) mv (List.zipWith (fun c (k : Nat × Nat) => (c + k.2) % 6) cs kjs) ∧ PySem.Paired (fun (kj : Nat × Nat) a => At xs u p ((num * a).fmod p) kj.1 kj.2) kjs as ∧ StrsAre pd' ((kjs.map fun kj => xs.getD kj.1 0).map showI)) := ((round_con.spec9 round_con.core9 ((((((prog, w), loose), (mean, mg)), ((mb, K), (SP, TD))), (((LG, c), (oz, od)), ((oc, o59), (o66, p)))), (((((u, num), kvs), (ts, pv)), ((lv, pd), (xs, as))), (((cs, pc), (lc, n3)), ((ln, tl), (t, t'))))) : round_con.Claim9 prog w loose mean mg mb K SP TD LG c oz od oc o59 o66 p u num kvs ts pv lv pd xs as cs pc lc n3 ln tl t t')) hch hp hpI hxl hxb hnum hd hcov hal ha6 haS hpd hlv hdiv h31 hc31 hoc hP h59 h66 hlt hTD0 hLG0
end
end
section
open L_P L_R L_T2 L_L L_X L_Y L_N
section
variable (prog : Program) (w : World) (loose : List Str) (mean : ExcName → Option Value) (mg mb : Str → Option Value)
theorem news_swp4 {h₀ h : Heap} {L : Addr} (A B C Tl : Led) (N : News h₀ L h (A ++ (B ++ (C ++ Tl)))) : News h₀ L h ((B ++ C) ++ (A ++ Tl)) := fun q hq => N q (by
  simp only [List.mem_append] at hq ⊢
  rcases hq with (h | h) | (h | h) <;> simp only [h, true_or, or_true])
theorem allNe_nw {x : Addr} {o : Obj} {big nl : Led} (hn : NwNe big nl) (hm : (x, o) ∈ big) : AllNe x nl := allNe_of fun q hq => Ne.symm (nwNe_to hn q hq (x, o) hm)
theorem fr_unknow2 {h₀ h : Heap} {L : Addr} {m : Str → Option Value} {y y1 : Str} {x : Value} {x1 : Option Value} (F : Fr h₀ L h (fun z => if z = y1 then x1 else if z = y then some x else m z)) (e : m y = some x) : Fr h₀ L h (fun z => if z = y1 then x1 else m z) := by
  have : (fun z => if z = y1 then x1 else if z = y then some x else m z) = (fun z => if z = y1 then x1 else m z) := by
    funext z
    by_cases q1 : z = y1
    · rw [if_pos q1, if_pos q1]
    · rw [if_neg q1, if_neg q1]
      by_cases q : z = y
      · subst q; rw [if_pos rfl, e]
      · rw [if_neg q]
  rw [this] at F
  exact F
theorem off3 {P : Addr} {o o59 o66 : Obj} {rest : Led} (h1 : AllNe P rest) (h2 : AllNe 59 rest) (h3 : AllNe 66 rest) : ∀ p ∈ rest, ∀ q ∈ [(P, o), (59, o59), (66, o66)], p.1 ≠ q.1 := fun p hp q hq => by
  simp only [List.mem_cons, List.not_mem_nil, or_false] at hq
  k_extra "g"
  rcases hq with rfl | rfl | rfl <;> k_extra "h"
  · exact allNe_to h1 p hp
  · exact allNe_to h2 p hp
  · exact allNe_to h3 p hp
theorem TabHas.mono {kvs : List (Int × Value)} {ts ts' : Led} {xs : List Int} {u p v : Int} (h : TabHas kvs ts xs u p v) (hs : ∀ q ∈ ts, q ∈ ts') : TabHas kvs ts' xs u p v := by
  k_extra "g"
  refine ex_5 h fun T t1 t2 k j k_ => and_3 k_ fun h1 h2 h3 => ?_
  clear k_ h
  k_extra "h"
  exact ⟨T, t1, t2, k, j, h1, hs _ h2, h3⟩
namespace seg7
noncomputable section
def Claim9 (prog : Program) (w : World) (loose : List Str) (mean : ExcName → Option Value) (mg mb : Str → Option Value) (rest : List Stmt) (fa L SP TD ML c : Addr) (cd : Value) (g : Heap) (s : Shared) (m : Str → Option Value) (Q : Flow → Shared → Prop) (E : Value → Shared → Prop) (o1 o2 o3 o4 o5 o6 o7 od oc : Obj) (fz : Led) (pc n3 : Nat) (tl t1 t3 t4 : Tok) (ln pp uu m1 m2 : Int) (kvs : List (Int × Value)) (pv pd : List Value) (ps : List Int) (K : Mach) : Prop := ∀ qual scope body st (H : LawAt w qual scope body) (hst : body[7]? = some st) (B : Below callerA g [] g) (F : Fr g L s.heap m) (X : (kf.heap_1 w.params).In g) (T : Top topProg loose mean mg mb g) (N : News g L s.heap ((K.P, W.listOf pd.toArray n3) :: (59, tabObj #[]) :: (66, tabObj #[]) :: (K.M, instObj 137 K.d) :: (K.d, K.dict ln tl) :: (SP, W.listOf pv.toArray pc) :: (31, tabIn c) :: (ML, W.listOf #[.int m1 t3, .int m2 t4] 0) :: (L + 1 + 1 + 1 + 1 + 1 + 1 + 1, o7) :: (L + 1 + 1 + 1 + 1 + 1 + 1, o6) :: (L + 1 + 1 + 1 + 1 + 1, o5) :: (L + 1 + 1 + 1 + 1, o4) :: (L + 1 + 1 + 1, o3) :: (L + 1 + 1, o2) :: (L + 1, o1) :: fz)) (hlt : @LT.lt Nat _ 66 L ∧ @LT.lt Nat _ (L + 1 + 1 + 1 + 1 + 1 + 1 + 1) ML ∧ @LT.lt Nat _ ML SP ∧ @LT.lt Nat _ SP K.cT) (hch : K.chain) (hP : AllNe K.P fz) (h59 : AllNe 59 fz) (h66 : AllNe 66 fz) (h5 : AllNe (L + 1 + 1 + 1 + 1 + 1) fz) (h6 : AllNe (L + 1 + 1 + 1 + 1 + 1 + 1) fz) (h7 : AllNe (L + 1 + 1 + 1 + 1 + 1 + 1 + 1) fz) (hTD : (TD, od) ∈ fz) (hd : od.IsDictOf (intKind prog w) kvs) (hcov : ∀ y ∈ ps, TabHas kvs fz ps uu pp ((m1 * y).fmod pp)) (hc : (c, oc) ∈ fz) (hc31 : @LT.lt Nat _ 31 c) (hoc : CodeAs oc QS) (hm : m (Str.ofString "many") = some (.ref ML)) (d1 : o1.data = .cell (some (.int pp t1))) (d2 : o2.data = .cell (some (.ref SP))) (d3 : o3.data = .cell (some (.ref K.M))) (d4 : o4.data = .cell (some (.ref TD))) (hp : PrimeOk pp) (hm1 : 1 ≤ m1 ∧ m1 ≤ 36) (hpI : IntsAre pv ps) (hpl : 1 ≤ ps.length ∧ ps.length ≤ 6) (hpr : ∀ y ∈ ps, 1 ≤ y ∧ y ≤ 36) (hpd : StrsAre pd (ps.map showI)) (ret : ∀ D mv n pd' n3' o59 o66 kjs fz' h' tk' dr', Fr g L h' (fun y => if y = Str.ofString "once" then some (.ref D) else m y) → News g L h' ((K.P, W.listOf (pd' : List Value).toArray n3') :: (59, o59) :: (66, o66) :: (K.M, instObj 137 K.d) :: (K.d, K.dict ln tl) :: (SP, W.listOf pv.toArray pc) :: (31, tabIn c) :: (ML, W.listOf #[.int m1 t3, .int m2 t4] 0) :: (L + 1 + 1 + 1 + 1 + 1 + 1 + 1, o7) :: (L + 1 + 1 + 1 + 1 + 1 + 1, o6) :: (L + 1 + 1 + 1 + 1 + 1, o5) :: (L + 1 + 1 + 1 + 1, o4) :: (L + 1 + 1 + 1, o3) :: (L + 1 + 1, o2) :: (L + 1, o1) :: fz') →
      (∀ p ∈ fz, p ∈ fz') → AllNe K.P fz' → AllNe 59 fz' → AllNe 66 fz' → AllNe (L + 1 + 1 + 1 + 1 + 1) fz' → AllNe (L + 1 + 1 + 1 + 1 + 1 + 1) fz' → AllNe (L + 1 + 1 + 1 + 1 + 1 + 1 + 1) fz' →
      (D, W.listOf (mv : List Value).toArray n) ∈ fz' → DivSt o59 o66 fz' → PySem.Paired (LightAt fz') mv (List.zipWith (fun c (k : Nat × Nat) => (c + k.2) % 6) (List.replicate ps.length 0) kjs) → PySem.Paired (fun (kj : Nat × Nat) a => At ps uu pp ((m1 * a).fmod pp) kj.1 kj.2) kjs ps → StrsAre pd' ((kjs.map fun kj => ps.getD kj.1 0).map showI) →
      wpAny (model prog w) (callerA.deeper (envOfC qual scope L fa cd)) (execs rest (envOfC qual scope L fa cd)) Q E { s with heap := h', toks := tk', drawn := dr' }), wpAny (model prog w) (callerA.deeper (envOfC qual scope L fa cd)) (execs (st :: rest) (envOfC qual scope L fa cd)) Q E s
abbrev T9 : Type := ((((((Program × World) × (List Str)) × (((ExcName → Option Value) × (Str → Option Value)) × (Str → Option Value))) × ((((List Stmt) × Addr) × Addr) × ((Addr × Addr) × Addr))) × ((((Addr × Value) × Heap) × ((Shared × (Str → Option Value)) × (Flow → Shared → Prop))) × ((((Value → Shared → Prop) × Obj) × Obj) × (Obj × Obj)))) × (((((Obj × Obj) × Obj) × ((Obj × Obj) × Led)) × (((Nat × Nat) × Tok) × (Tok × Tok))) × ((((Tok × Int) × Int) × ((Int × Int) × Int)) × ((((List (Int × Value)) × (List Value)) × (List Value)) × ((List Int) × Mach)))))
def U9 (t : T9) : Prop := Claim9 t.1.1.1.1.1.1 t.1.1.1.1.1.2 t.1.1.1.1.2 t.1.1.1.2.1.1 t.1.1.1.2.1.2 t.1.1.1.2.2 t.1.1.2.1.1.1 t.1.1.2.1.1.2 t.1.1.2.1.2 t.1.1.2.2.1.1 t.1.1.2.2.1.2 t.1.1.2.2.2 t.1.2.1.1.1.1 t.1.2.1.1.1.2 t.1.2.1.1.2 t.1.2.1.2.1.1 t.1.2.1.2.1.2 t.1.2.1.2.2 t.1.2.2.1.1.1 t.1.2.2.1.1.2 t.1.2.2.1.2 t.1.2.2.2.1 t.1.2.2.2.2 t.2.1.1.1.1.1 t.2.1.1.1.1.2 t.2.1.1.1.2 t.2.1.1.2.1.1 t.2.1.1.2.1.2 t.2.1.1.2.2 t.2.1.2.1.1.1 t.2.1.2.1.1.2 t.2.1.2.1.2 t.2.1.2.2.1 t.2.1.2.2.2 t.2.2.1.1.1.1 t.2.2.1.1.1.2 t.2.2.1.1.2 t.2.2.1.2.1.1 t.2.2.1.2.1.2 t.2.2.1.2.2 t.2.2.2.1.1.1 t.2.2.2.1.1.2 t.2.2.2.1.2 t.2.2.2.2.1 t.2.2.2.2.2
@[irreducible] def v9 : T9 := ch9 (by k_extra "NE") U9
theorem spec9 : U9 v9 → ∀ t, U9 t := by with_unfolding_all exact sp9 _ U9
theorem core9 : U9 v9 := by
  refine (let prog := v9.1.1.1.1.1.1; let w := v9.1.1.1.1.1.2; let loose := v9.1.1.1.1.2; let mean := v9.1.1.1.2.1.1; let mg := v9.1.1.1.2.1.2; let mb := v9.1.1.1.2.2; let rest := v9.1.1.2.1.1.1; let fa := v9.1.1.2.1.1.2; let L := v9.1.1.2.1.2; let SP := v9.1.1.2.2.1.1; let TD := v9.1.1.2.2.1.2; let ML := v9.1.1.2.2.2; let c := v9.1.2.1.1.1.1; let cd := v9.1.2.1.1.1.2; let g := v9.1.2.1.1.2; let s := v9.1.2.1.2.1.1; let m := v9.1.2.1.2.1.2; let Q := v9.1.2.1.2.2; let E := v9.1.2.2.1.1.1; let o1 := v9.1.2.2.1.1.2; let o2 := v9.1.2.2.1.2; let o3 := v9.1.2.2.2.1; let o4 := v9.1.2.2.2.2; let o5 := v9.2.1.1.1.1.1; let o6 := v9.2.1.1.1.1.2; let o7 := v9.2.1.1.1.2; let od := v9.2.1.1.2.1.1; let oc := v9.2.1.1.2.1.2; let fz := v9.2.1.1.2.2; let pc := v9.2.1.2.1.1.1; let n3 := v9.2.1.2.1.1.2; let tl := v9.2.1.2.1.2; let t1 := v9.2.1.2.2.1; let t3 := v9.2.1.2.2.2; let t4 := v9.2.2.1.1.1.1; let ln := v9.2.2.1.1.1.2; let pp := v9.2.2.1.1.2; let uu := v9.2.2.1.2.1.1; let m1 := v9.2.2.1.2.1.2; let m2 := v9.2.2.1.2.2; let kvs := v9.2.2.2.1.1.1; let pv := v9.2.2.2.1.1.2; let pd := v9.2.2.2.1.2; let ps := v9.2.2.2.2.1; let K := v9.2.2.2.2.2; (?_ : Claim9 prog w loose mean mg mb rest fa L SP TD ML c cd g s m Q E o1 o2 o3 o4 o5 o6 o7 od oc fz pc n3 tl t1 t3 t4 ln pp uu m1 m2 kvs pv pd ps K))
  clear_value prog w loose mean mg mb rest fa L SP TD ML c cd g s m Q E o1 o2 o3 o4 o5 o6 o7 od oc fz pc n3 tl t1 t3 t4 ln pp uu m1 m2 kvs pv pd ps K
  intro qual scope body st H hst B F X T N hlt hch hP h59 h66 h5 h6 h7 hTD hd hcov hc hc31 hoc hm d1 d2 d3 d4 hp hm1 hpI hpl hpr hpd ret
  revert ret
  refine law_cc (ε := envOfC qual scope L fa cd) rfl rfl H hst rfl ?_
  clear H hst
  intro ret
  have hcu9 := hch
  unfold Mach.chain Chain10 at hcu9
  have S9 : Srt [31, 59, 66, L, L + 1, L + 1 + 1, L + 1 + 1 + 1, L + 1 + 1 + 1 + 1, L + 1 + 1 + 1 + 1 + 1, L + 1 + 1 + 1 + 1 + 1 + 1, L + 1 + 1 + 1 + 1 + 1 + 1 + 1, ML, SP, K.cT, K.cA, K.A, K.c, K.Fn, K.S, K.dS, K.d, K.M, K.P] := srt_c (by decide) <| srt_c (by decide) <| srt_c (hlt.1) <| srt_c (Nat.lt_succ_self _) <| srt_c (Nat.lt_succ_self _) <| srt_c (Nat.lt_succ_self _) <| srt_c (Nat.lt_succ_self _) <| srt_c (Nat.lt_succ_self _) <| srt_c (Nat.lt_succ_self _) <| srt_c (Nat.lt_succ_self _) <| srt_c (hlt.2.1) <| srt_c (hlt.2.2.1) <| srt_c (hlt.2.2.2) <| srt_c (hcu9.1) <| srt_c (hcu9.2.1) <| srt_c (hcu9.2.2.1) <| srt_c (hcu9.2.2.2.1) <| srt_c (hcu9.2.2.2.2.1) <| srt_c (hcu9.2.2.2.2.2.1) <| srt_c (hcu9.2.2.2.2.2.2.1) <| srt_c (hcu9.2.2.2.2.2.2.2.1) <| srt_c (hcu9.2.2.2.2.2.2.2.2) <| srt_1
  clear hcu9
  have hvl := hpI.length
  have hcu := hch
  unfold Mach.chain Chain10 at hcu
  have F1 := fr_know F hm
  clear F
  (try dsimp only)
  k_extra "TOLC"
  refine lc_list (vs := pv) (ax := SP) (c := pc) (Dr := fun d => d = s.drawn) (fun i ys led => ∃ ls, led = (K.P, W.listOf pd.toArray n3) :: (59, tabObj #[]) :: (66, tabObj #[]) :: (K.M, instObj 137 K.d) :: (K.d, K.dict ln tl) :: (SP, W.listOf pv.toArray pc) :: (31, tabIn c) :: (ML, W.listOf #[.int m1 t3, .int m2 t4] 0) :: (L + 1 + 1 + 1 + 1 + 1 + 1 + 1, o7) :: (L + 1 + 1 + 1 + 1 + 1 + 1, o6) :: (L + 1 + 1 + 1 + 1 + 1, o5) :: (L + 1 + 1 + 1 + 1, o4) :: (L + 1 + 1 + 1, o3) :: (L + 1 + 1, o2) :: (L + 1, o1) :: (ls ++ fz) ∧ PySem.Paired (LightAt (ls ++ fz)) ys (List.replicate i 0) ∧ ∀ q ∈ ls, @LT.lt Nat _ K.P q.1) rfl (by decide) rfl rfl F1 N (by repeat' (first | exact .head _ | apply List.Mem.tail)) (by omega) rfl ⟨[], rfl, .nil, fun _ h => nomatch h⟩ ?turn ?fin
  case turn =>
    intro i v ys led I oI C oC D2 m₂ h tk dr E' hv hi hdr hyl hC hx F2 N2 off hne hlt2 hIl hS hJ
    k_extra "g"
    obtain ⟨ls, rfl, hys, hls⟩ := hJ
    k_extra "h"
    subst hdr
    clear hS N
    k_lt hIl
    (first | (refine opq_turn ?_; intro QT9 hT9) | (refine opq_V ?_; intro QT9 hT9))
    k_extra "STEPSD"
    rename News g L _ _ => NB
    rename Fr g L _ _ => FB
    rename (@LT.lt Nat _ I _ ∧ _) => lN
    rename_i l9 h9
    k_extra "g"
    obtain ⟨u0, u1, u2, NB⟩ : ∃ u0 u1 u2, News g L h9 ((l9, lightObj 0 u0 u1 u2 0) :: (I, oI) :: (C, oC) :: (D2, LCg.lst ys) :: (K.P, W.listOf pd.toArray n3) :: (59, tabObj #[]) :: (66, tabObj #[]) :: (K.M, instObj 137 K.d) :: (K.d, K.dict ln tl) :: (SP, W.listOf pv.toArray pc) :: (31, tabIn c) :: (ML, W.listOf #[.int m1 t3, .int m2 t4] 0) :: (L + 1 + 1 + 1 + 1 + 1 + 1 + 1, o7) :: (L + 1 + 1 + 1 + 1 + 1 + 1, o6) :: (L + 1 + 1 + 1 + 1 + 1, o5) :: (L + 1 + 1 + 1 + 1, o4) :: (L + 1 + 1 + 1, o3) :: (L + 1 + 1, o2) :: (L + 1, o1) :: (ls ++ fz)) := ⟨_, _, _, NB⟩
    k_extra "h"
    refine exI_4 _ _ _ ((K.P, W.listOf pd.toArray n3) :: (59, tabObj #[]) :: (66, tabObj #[]) :: (K.M, instObj 137 K.d) :: (K.d, K.dict ln tl) :: (SP, W.listOf pv.toArray pc) :: (31, tabIn c) :: (ML, W.listOf #[.int m1 t3, .int m2 t4] 0) :: (L + 1 + 1 + 1 + 1 + 1 + 1 + 1, o7) :: (L + 1 + 1 + 1 + 1 + 1 + 1, o6) :: (L + 1 + 1 + 1 + 1 + 1, o5) :: (L + 1 + 1 + 1 + 1, o4) :: (L + 1 + 1 + 1, o3) :: (L + 1 + 1, o2) :: (L + 1, o1) :: (((l9, lightObj 0 u0 u1 u2 0) :: ls) ++ fz)) ⟨rfl, rfl, FB, ?nn, ⟨off.1, off.2.1, off.2.2.1, off.2.2.2.1, off.2.2.2.2.1, off.2.2.2.2.2.1, off.2.2.2.2.2.2.1, off.2.2.2.2.2.2.2.1, off.2.2.2.2.2.2.2.2.1, off.2.2.2.2.2.2.2.2.2.1, off.2.2.2.2.2.2.2.2.2.2.1, off.2.2.2.2.2.2.2.2.2.2.2.1, off.2.2.2.2.2.2.2.2.2.2.2.2.1, off.2.2.2.2.2.2.2.2.2.2.2.2.2.1, off.2.2.2.2.2.2.2.2.2.2.2.2.2.2.1, ⟨by show @Ne Nat _ _; omega, by show @Ne Nat _ _; omega, by show @Ne Nat _ _; omega⟩, off.2.2.2.2.2.2.2.2.2.2.2.2.2.2.2⟩, ⟨pc, by repeat' (first | exact .head _ | apply List.Mem.tail)⟩, (l9, lightObj 0 u0 u1 u2 0) :: ls, rfl, ?pp, List.forall_mem_cons.mpr ⟨by show @LT.lt Nat _ _ _; omega, hls⟩⟩
    case nn => k_extra "NWS"
    case pp =>
      rw [List.replicate_succ', List.cons_append]
      exact (lights_mono hys (fun q hq => .tail _ hq)).snoc ⟨by decide, l9, _, _, _, 0, rfl, .head _⟩
  case fin =>
    intro D2 h tk dr ys led hbl hdr hyl F2 N2 hne hS hJ
    k_extra "g"
    obtain ⟨ls, rfl, hys, hls⟩ := hJ
    k_extra "h"
    subst hdr
    clear hS N
    have hPD : @LT.lt Nat _ K.P D2 := hbl _ (.head _)
    clear hbl
    repeat' (first | ((fail_if_success (with_reducible show wpAny _ _ (call (Value.ref 184) _) _ _ _)); k_extra "STEP1"))
    have hsub : ∀ q ∈ fz, q ∈ (D2, LCg.lst ys) :: (ls ++ fz) := fun q hq => .tail _ (List.mem_append.mpr (.inr hq))
    have hts : ∀ x : Addr, @LE.le Nat _ x K.P → AllNe x fz → AllNe x ((D2, LCg.lst ys) :: (ls ++ fz)) := fun x hx hz => allNe_cons (by show @Ne Nat _ _; omega) (allNe_app (allNe_of fun q hq => by have := hls q hq; show @Ne Nat _ _; omega) hz)
    have hPt := hts K.P (Nat.le_refl _) hP
    have h59t := hts 59 (by omega) h59
    have h66t := hts 66 (by omega) h66
    have h5t := hts _ (by omega) h5
    have h6t := hts _ (by omega) h6
    have h7t := hts _ (by omega) h7
    have e1 : AllNe K.P ((K.M, instObj 137 K.d) :: (K.d, K.dict ln tl) :: (SP, W.listOf pv.toArray pc) :: (31, tabIn c) :: (ML, W.listOf #[.int m1 t3, .int m2 t4] 0) :: (L + 1 + 1 + 1 + 1 + 1 + 1 + 1, o7) :: (L + 1 + 1 + 1 + 1 + 1 + 1, o6) :: (L + 1 + 1 + 1 + 1 + 1, o5) :: (L + 1 + 1 + 1 + 1, o4) :: (L + 1 + 1 + 1, o3) :: (L + 1 + 1, o2) :: (L + 1, o1) :: ((D2, LCg.lst ys) :: (ls ++ fz))) := by repeat' (first | (with_reducible assumption) | (refine allNe_cons (by dsimp only; omega) ?_))
    have e2 : AllNe 59 ((K.M, instObj 137 K.d) :: (K.d, K.dict ln tl) :: (SP, W.listOf pv.toArray pc) :: (31, tabIn c) :: (ML, W.listOf #[.int m1 t3, .int m2 t4] 0) :: (L + 1 + 1 + 1 + 1 + 1 + 1 + 1, o7) :: (L + 1 + 1 + 1 + 1 + 1 + 1, o6) :: (L + 1 + 1 + 1 + 1 + 1, o5) :: (L + 1 + 1 + 1 + 1, o4) :: (L + 1 + 1 + 1, o3) :: (L + 1 + 1, o2) :: (L + 1, o1) :: ((D2, LCg.lst ys) :: (ls ++ fz))) := by repeat' (first | (with_reducible assumption) | (refine allNe_cons (by dsimp only; omega) ?_))
    have e3 : AllNe 66 ((K.M, instObj 137 K.d) :: (K.d, K.dict ln tl) :: (SP, W.listOf pv.toArray pc) :: (31, tabIn c) :: (ML, W.listOf #[.int m1 t3, .int m2 t4] 0) :: (L + 1 + 1 + 1 + 1 + 1 + 1 + 1, o7) :: (L + 1 + 1 + 1 + 1 + 1 + 1, o6) :: (L + 1 + 1 + 1 + 1 + 1, o5) :: (L + 1 + 1 + 1 + 1, o4) :: (L + 1 + 1 + 1, o3) :: (L + 1 + 1, o2) :: (L + 1, o1) :: ((D2, LCg.lst ys) :: (ls ++ fz))) := by repeat' (first | (with_reducible assumption) | (refine allNe_cons (by dsimp only; omega) ?_))
    rw [hvl] at hys
    refine wpAny_call ?_
    k_dflt (refine' conD_use (rest := (K.M, instObj 137 K.d) :: (K.d, K.dict ln tl) :: (SP, W.listOf pv.toArray pc) :: (31, tabIn c) :: (ML, W.listOf #[.int m1 t3, .int m2 t4] 0) :: (L + 1 + 1 + 1 + 1 + 1 + 1 + 1, o7) :: (L + 1 + 1 + 1 + 1 + 1 + 1, o6) :: (L + 1 + 1 + 1 + 1 + 1, o5) :: (L + 1 + 1 + 1 + 1, o4) :: (L + 1 + 1 + 1, o3) :: (L + 1 + 1, o2) :: (L + 1, o1) :: ((D2, LCg.lst ys) :: (ls ++ fz))) (round_con prog w loose mean mg mb K SP TD D2 c od od oc _ _ pp uu m1 kvs ((D2, LCg.lst ys) :: (ls ++ fz)) pv ys pd ps ps (List.replicate ps.length 0) pc ys.length n3 ln tl _ _ hch hp hpI hpl.2 hpr hm1 hd (fun y hy => (hcov y hy).mono hsub) (by simp) hpl (fun _ h => h) hpd (lights_mono hys fun q hq => .tail _ hq) (.inl ⟨rfl, rfl⟩) (hsub _ hc) hc31 hoc hPt h59t h66t (by omega) (hsub _ hTD) (.head _)) ?d1 ?d2 B F2 X N2 T ?k6 ?ro ?mu ?re (off3 e1 e2 e3) ?_)
    case d1 => exact Nat.le_of_ble_eq_true rfl
    case d2 => exact Nat.le_of_ble_eq_true rfl
    case k6 => rfl
    case ro =>
      repeat (first | exact List.forall_mem_nil _ | ((refine List.forall_mem_cons.mpr ⟨?_, ?_⟩); focus ((repeat (first | exact .head _ | apply List.Mem.tail)); done)))
      intro q hq
      repeat (first | exact hq | apply List.Mem.tail)
    case mu =>
      repeat (first | exact List.forall_mem_nil _ | ((refine List.forall_mem_cons.mpr ⟨?_, ?_⟩); focus ((repeat (first | exact .head _ | apply List.Mem.tail)); done)))
    case re =>
      repeat (first | exact List.forall_mem_nil _ | ((refine List.forall_mem_cons.mpr ⟨?_, ?_⟩); focus ((repeat (first | exact .head _ | apply List.Mem.tail)); done)))
      intro q hq
      repeat (first | exact hq | apply List.Mem.tail)
    intro r mu' nw h' tk' dr' F' N' hR hn
    k_extra "g"
    refine ex_9 hR fun D mv n pd' n3' o59 o66 nl kjs k_ => and_7 k_ fun r1_ r2_ r3_ hv hmv hkp hpd' => ?_
    clear k_ hR
    subst r1_
    subst r2_
    subst r3_
    k_extra "h"
    have NB : News g L h' ((K.P, W.listOf pd'.toArray n3') :: (59, o59) :: (66, o66) :: (K.M, instObj 137 K.d) :: (K.d, K.dict ln tl) :: (SP, W.listOf pv.toArray pc) :: (31, tabIn c) :: (ML, W.listOf #[.int m1 t3, .int m2 t4] 0) :: (L + 1 + 1 + 1 + 1 + 1 + 1 + 1, o7) :: (L + 1 + 1 + 1 + 1 + 1 + 1, o6) :: (L + 1 + 1 + 1 + 1 + 1, o5) :: (L + 1 + 1 + 1 + 1, o4) :: (L + 1 + 1 + 1, o3) :: (L + 1 + 1, o2) :: (L + 1, o1) :: ((D, W.listOf mv.toArray n) :: (nl ++ ((D2, LCg.lst ys) :: (ls ++ fz))))) := news_swp4 ((D, W.listOf mv.toArray n) :: nl) [_, _, _] [_, _, _, _, _, _, _, _, _, _, _, _] _ N'
    have key : ∀ x o, (x, o) ∈ _ → AllNe x ((D2, LCg.lst ys) :: (ls ++ fz)) → AllNe x ((D, W.listOf mv.toArray n) :: (nl ++ ((D2, LCg.lst ys) :: (ls ++ fz)))) := fun x o hm ht => ⟨Ne.symm (allNe_to hn.1 (x, o) hm), allNe_app (allNe_nw hn.2 hm) ht⟩
    have k1 := key K.P (W.listOf pd.toArray n3) (by repeat' (first | exact .head _ | apply List.Mem.tail)) hPt
    have k2 := key 59 (tabObj #[]) (by repeat' (first | exact .head _ | apply List.Mem.tail)) h59t
    have k3 := key 66 (tabObj #[]) (by repeat' (first | exact .head _ | apply List.Mem.tail)) h66t
    have k5 := key _ o5 (by repeat' (first | exact .head _ | apply List.Mem.tail)) h5t
    have k6 := key _ o6 (by repeat' (first | exact .head _ | apply List.Mem.tail)) h6t
    have k7 := key _ o7 (by repeat' (first | exact .head _ | apply List.Mem.tail)) h7t
    clear N' N2 hn key
    k_extra "STEPSD"
    rename News g L _ _ => NB
    rename Fr g L _ _ => FB
    refine ret D mv n pd' n3' o59 o66 kjs ((D, W.listOf mv.toArray n) :: (nl ++ ((D2, LCg.lst ys) :: (ls ++ fz)))) _ _ _ ?ff NB (fun q hq => .tail _ (List.mem_append.mpr (.inr (hsub q hq)))) k1 k2 k3 k5 k6 k7 (.head _) (hv.mono fun q hq => .tail _ hq) (lights_mono hmv fun q hq => .tail _ hq) hkp hpd'
    exact fr_unknow2 FB hm
end
end seg7
theorem seg7 {qual scope body st} (H : LawAt w qual scope body) (hst : body[7]? = some st) {rest : List Stmt} {fa L SP TD ML c : Addr} {cd : Value} {g : Heap} {s : Shared} {m : Str → Option Value} {Q : Flow → Shared → Prop} {E : Value → Shared → Prop} {o1 o2 o3 o4 o5 o6 o7 od oc : Obj} {fz : Led} {pc n3 : Nat} {tl t1 t3 t4 : Tok} {ln pp uu m1 m2 : Int} {kvs : List (Int × Value)} {pv pd : List Value} {ps : List Int} {K : Mach}
    (B : Below callerA g [] g) (F : Fr g L s.heap m) (X : (kf.heap_1 w.params).In g) (T : Top topProg loose mean mg mb g)
    (N : News g L s.heap ((K.P, W.listOf pd.toArray n3) :: (59, tabObj #[]) :: (66, tabObj #[]) :: (K.M, instObj 137 K.d) :: (K.d, K.dict ln tl) :: (SP, W.listOf pv.toArray pc) :: (31, tabIn c) :: (ML, W.listOf #[.int m1 t3, .int m2 t4] 0) :: (L + 1 + 1 + 1 + 1 + 1 + 1 + 1, o7) :: (L + 1 + 1 + 1 + 1 + 1 + 1, o6) :: (L + 1 + 1 + 1 + 1 + 1, o5) :: (L + 1 + 1 + 1 + 1, o4) :: (L + 1 + 1 + 1, o3) :: (L + 1 + 1, o2) :: (L + 1, o1) :: fz))
    (hlt : @LT.lt Nat _ 66 L ∧ @LT.lt Nat _ (L + 1 + 1 + 1 + 1 + 1 + 1 + 1) ML ∧ @LT.lt Nat _ ML SP ∧ @LT.lt Nat _ SP K.cT) (hch : K.chain) (hP : AllNe K.P fz) (h59 : AllNe 59 fz) (h66 : AllNe 66 fz) (h5 : AllNe (L + 1 + 1 + 1 + 1 + 1) fz) (h6 : AllNe (L + 1 + 1 + 1 + 1 + 1 + 1) fz) (h7 : AllNe (L + 1 + 1 + 1 + 1 + 1 + 1 + 1) fz)
    (hTD : (TD, od) ∈ fz) (hd : od.IsDictOf (intKind prog w) kvs) (hcov : ∀ y ∈ ps, TabHas kvs fz ps uu pp ((m1 * y).fmod pp)) (hc : (c, oc) ∈ fz) (hc31 : @LT.lt Nat _ 31 c) (hoc : CodeAs oc QS)
    (hm : m (Str.ofString "many") = some (.ref ML)) (d1 : o1.data = .cell (some (.int pp t1))) (d2 : o2.data = .cell (some (.ref SP))) (d3 : o3.data = .cell (some (.ref K.M))) (d4 : o4.data = .cell (some (.ref TD)))
    (hp : PrimeOk pp) (hm1 : 1 ≤ m1 ∧ m1 ≤ 36) (hpI : IntsAre pv ps) (hpl : 1 ≤ ps.length ∧ ps.length ≤ 6) (hpr : ∀ y ∈ ps, 1 ≤ y ∧ y ≤ 36) (hpd : StrsAre pd (ps.map showI))
    (ret : ∀ D mv n pd' n3' o59 o66 kjs fz' h' tk' dr', Fr g L h' (fun y => if y = Str.ofString "once" then some (.ref D) else m y) → News g L h' ((K.P, W.listOf (pd' : List Value).toArray n3') :: (59, o59) :: (66, o66) :: (K.M, instObj 137 K.d) :: (K.d, K.dict ln tl) :: (SP, W.listOf pv.toArray pc) :: (31, tabIn c) :: (ML, W.listOf #[.int m1 t3, .int m2 t4] 0) :: (L + 1 + 1 + 1 + 1 + 1 + 1 + 1, o7) :: (L + 1 + 1 + 1 + 1 + 1 + 1, o6) :: (L + 1 + 1 + 1 + 1 + 1, o5) :: (L + 1 + 1 + 1 + 1, o4) :: (L + 1 + 1 + 1, o3) :: (L + 1 + 1, o2) :: (L + 1, o1) :: fz') →
      (∀ p ∈ fz, p ∈ fz') → AllNe K.P fz' → AllNe 59 fz' → AllNe 66 fz' → AllNe (L + 1 + 1 + 1 + 1 + 1) fz' → AllNe (L + 1 + 1 + 1 + 1 + 1 + 1) fz' → AllNe (L + 1 + 1 + 1 + 1 + 1 + 1 + 1) fz' →
      (D, W.listOf (mv : List Value).toArray n) ∈ fz' → DivSt o59 o66 fz' → PySem.Paired (LightAt fz') mv (List.zipWith (fun c (k : Nat × Nat) => (c + k.2) % 6) (List.replicate ps.length 0) kjs) → PySem.Paired (fun (kj : Nat × Nat) a => At ps uu pp ((m1 * a).fmod pp) kj.1 kj.2) kjs ps → StrsAre pd' ((kjs.map fun kj => ps.getD kj.1 0).map showI) →
      wpAny (model prog w) (callerA.deeper (envOfC qual scope L fa cd)) (execs rest (envOfC qual scope L fa cd)) Q E { s with heap := h', toks := tk', drawn := dr' }) :
    wpAny (model prog w) (callerA.deeper (envOfC qual scope L fa cd)) (execs (st :: rest) (envOfC qual scope L fa cd)) Q E s := ((seg7.spec9 seg7.core9 ((((((prog, w), loose), ((mean, mg), mb)), (((rest, fa), L), ((SP, TD), ML))), ((((c, cd), g), ((s, m), Q)), (((E, o1), o2), (o3, o4)))), (((((o5, o6), o7), ((od, oc), fz)), (((pc, n3), tl), (t1, t3))), ((((t4, ln), pp), ((uu, m1), m2)), (((kvs, pv), pd), (ps, K))))) : seg7.Claim9 prog w loose mean mg mb rest fa L SP TD ML c cd g s m Q E o1 o2 o3 o4 o5 o6 o7 od oc fz pc n3 tl t1 t3 t4 ln pp uu m1 m2 kvs pv pd ps K)) qual scope body st H hst B F X T N hlt hch hP h59 h66 h5 h6 h7 hTD hd hcov hc hc31 hoc hm d1 d2 d3 d4 hp hm1 hpI hpl hpr hpd ret
end
end
section
open L_P L_R L_T2 L_L L_X L_Y L_N
section
variable (prog : Program) (w : World) (loose : List Str) (mean : ExcName → Option Value) (mg mb : Str → Option Value)
theorem fr_unknow22 {h₀ h : Heap} {L : Addr} {m : Str → Option Value} {y y2 y1 : Str} {x x2 : Value} {x1 : Option Value} (F : Fr h₀ L h (fun z => if z = y1 then x1 else if z = y then some x else if z = y2 then some x2 else m z)) (e : m y = some x) (e2 : m y2 = some x2) : Fr h₀ L h (fun z => if z = y1 then x1 else m z) := by
  have : (fun z => if z = y1 then x1 else if z = y then some x else if z = y2 then some x2 else m z) = (fun z => if z = y1 then x1 else m z) := by
    funext z
    by_cases q1 : z = y1
    · rw [if_pos q1, if_pos q1]
    · rw [if_neg q1, if_neg q1]
      by_cases q : z = y
      · subst q; rw [if_pos rfl, e]
      · rw [if_neg q]
        by_cases q : z = y2
        · subst q; rw [if_pos rfl, e2]
        · rw [if_neg q]
  rw [this] at F
  exact F
namespace seg8
noncomputable section
def Claim9 (prog : Program) (w : World) (loose : List Str) (mean : ExcName → Option Value) (mg mb : Str → Option Value) (rest : List Stmt) (fa L SP TD ML c : Addr) (cd : Value) (g : Heap) (s : Shared) (m : Str → Option Value) (Q : Flow → Shared → Prop) (E : Value → Shared → Prop) (o1 o2 o3 o4 o5 o6 o7 od oc o59 o66 : Obj) (fz : Led) (ON : Addr) (lv : List Value) (as : List Int) (cs : List Nat) (pc n3 lc : Nat) (tl t1 t3 t4 : Tok) (ln pp uu m1 m2 : Int) (kvs : List (Int × Value)) (pv pd : List Value) (ps : List Int) (K : Mach) : Prop := ∀ qual scope body st (H : LawAt w qual scope body) (hst : body[8]? = some st) (B : Below callerA g [] g) (F : Fr g L s.heap m) (X : (kf.heap_1 w.params).In g) (T : Top topProg loose mean mg mb g) (N : News g L s.heap ((K.P, W.listOf pd.toArray n3) :: (59, o59) :: (66, o66) :: (K.M, instObj 137 K.d) :: (K.d, K.dict ln tl) :: (SP, W.listOf pv.toArray pc) :: (31, tabIn c) :: (ML, W.listOf #[.int m1 t3, .int m2 t4] 0) :: (L + 1 + 1 + 1 + 1 + 1 + 1 + 1, o7) :: (L + 1 + 1 + 1 + 1 + 1 + 1, o6) :: (L + 1 + 1 + 1 + 1 + 1, o5) :: (L + 1 + 1 + 1 + 1, o4) :: (L + 1 + 1 + 1, o3) :: (L + 1 + 1, o2) :: (L + 1, o1) :: fz)) (hlt : @LT.lt Nat _ 66 L ∧ @LT.lt Nat _ (L + 1 + 1 + 1 + 1 + 1 + 1 + 1) ML ∧ @LT.lt Nat _ ML SP ∧ @LT.lt Nat _ SP K.cT) (hch : K.chain) (hP : AllNe K.P fz) (h59 : AllNe 59 fz) (h66 : AllNe 66 fz) (h5 : AllNe (L + 1 + 1 + 1 + 1 + 1) fz) (h6 : AllNe (L + 1 + 1 + 1 + 1 + 1 + 1) fz) (h7 : AllNe (L + 1 + 1 + 1 + 1 + 1 + 1 + 1) fz) (hTD : (TD, od) ∈ fz) (hd : od.IsDictOf (intKind prog w) kvs) (hcov : ∀ y ∈ ps, TabHas kvs fz ps uu pp ((m2 * y).fmod pp)) (hc : (c, oc) ∈ fz) (hc31 : @LT.lt Nat _ 31 c) (hoc : CodeAs oc QS) (hm : m (Str.ofString "many") = some (.ref ML)) (d1 : o1.data = .cell (some (.int pp t1))) (d2 : o2.data = .cell (some (.ref SP))) (d3 : o3.data = .cell (some (.ref K.M))) (d4 : o4.data = .cell (some (.ref TD))) (hp : PrimeOk pp) (hm2 : 1 ≤ m2 ∧ m2 ≤ 36) (hpI : IntsAre pv ps) (hpl : 1 ≤ ps.length ∧ ps.length ≤ 6) (hpr : ∀ y ∈ ps, 1 ≤ y ∧ y ≤ 36) (hpd : StrsAre pd (as.map showI)) (hON : m (Str.ofString "once") = some (.ref ON)) (hONm : (ON, W.listOf lv.toArray lc) ∈ fz) (hlv : PySem.Paired (LightAt fz) lv cs) (hcl : as.length = cs.length) (haS : ∀ y ∈ as, y ∈ ps) (hal : 1 ≤ as.length ∧ as.length ≤ 6) (hdiv : DivSt o59 o66 fz) (ret : ∀ D mv n pd' n3' o59' o66' kjs fz' h' tk' dr', Fr g L h' (fun y => if y = Str.ofString "twice" then some (.ref D) else m y) → News g L h' ((K.P, W.listOf (pd' : List Value).toArray n3') :: (59, o59') :: (66, o66') :: (K.M, instObj 137 K.d) :: (K.d, K.dict ln tl) :: (SP, W.listOf pv.toArray pc) :: (31, tabIn c) :: (ML, W.listOf #[.int m1 t3, .int m2 t4] 0) :: (L + 1 + 1 + 1 + 1 + 1 + 1 + 1, o7) :: (L + 1 + 1 + 1 + 1 + 1 + 1, o6) :: (L + 1 + 1 + 1 + 1 + 1, o5) :: (L + 1 + 1 + 1 + 1, o4) :: (L + 1 + 1 + 1, o3) :: (L + 1 + 1, o2) :: (L + 1, o1) :: fz') →
      (∀ p ∈ fz, p ∈ fz') → AllNe K.P fz' → AllNe 59 fz' → AllNe 66 fz' → AllNe (L + 1 + 1 + 1 + 1 + 1) fz' → AllNe (L + 1 + 1 + 1 + 1 + 1 + 1) fz' → AllNe (L + 1 + 1 + 1 + 1 + 1 + 1 + 1) fz' →
      (D, W.listOf (mv : List Value).toArray n) ∈ fz' → DivSt o59' o66' fz' → PySem.Paired (LightAt fz') mv (List.zipWith (fun c (k : Nat × Nat) => (c + k.2) % 6) cs kjs) → PySem.Paired (fun (kj : Nat × Nat) a => At ps uu pp ((m2 * a).fmod pp) kj.1 kj.2) kjs as → StrsAre pd' ((kjs.map fun kj => ps.getD kj.1 0).map showI) →
      wpAny (model prog w) (callerA.deeper (envOfC qual scope L fa cd)) (execs rest (envOfC qual scope L fa cd)) Q E { s with heap := h', toks := tk', drawn := dr' }), wpAny (model prog w) (callerA.deeper (envOfC qual scope L fa cd)) (execs (st :: rest) (envOfC qual scope L fa cd)) Q E s
abbrev T9 : Type := ((((((Program × World) × ((List Str) × (ExcName → Option Value))) × (((Str → Option Value) × (Str → Option Value)) × (List Stmt))) × (((Addr × Addr) × Addr) × ((Addr × Addr) × Addr))) × ((((Value × Heap) × (Shared × (Str → Option Value))) × (((Flow → Shared → Prop) × (Value → Shared → Prop)) × Obj)) × (((Obj × Obj) × Obj) × ((Obj × Obj) × Obj)))) × (((((Obj × Obj) × (Obj × Obj)) × ((Led × Addr) × (List Value))) × ((((List Int) × (List Nat)) × Nat) × ((Nat × Nat) × Tok))) × ((((Tok × Tok) × (Tok × Int)) × ((Int × Int) × Int)) × (((Int × (List (Int × Value))) × (List Value)) × (((List Value) × (List Int)) × Mach)))))
def U9 (t : T9) : Prop := Claim9 t.1.1.1.1.1.1 t.1.1.1.1.1.2 t.1.1.1.1.2.1 t.1.1.1.1.2.2 t.1.1.1.2.1.1 t.1.1.1.2.1.2 t.1.1.1.2.2 t.1.1.2.1.1.1 t.1.1.2.1.1.2 t.1.1.2.1.2 t.1.1.2.2.1.1 t.1.1.2.2.1.2 t.1.1.2.2.2 t.1.2.1.1.1.1 t.1.2.1.1.1.2 t.1.2.1.1.2.1 t.1.2.1.1.2.2 t.1.2.1.2.1.1 t.1.2.1.2.1.2 t.1.2.1.2.2 t.1.2.2.1.1.1 t.1.2.2.1.1.2 t.1.2.2.1.2 t.1.2.2.2.1.1 t.1.2.2.2.1.2 t.1.2.2.2.2 t.2.1.1.1.1.1 t.2.1.1.1.1.2 t.2.1.1.1.2.1 t.2.1.1.1.2.2 t.2.1.1.2.1.1 t.2.1.1.2.1.2 t.2.1.1.2.2 t.2.1.2.1.1.1 t.2.1.2.1.1.2 t.2.1.2.1.2 t.2.1.2.2.1.1 t.2.1.2.2.1.2 t.2.1.2.2.2 t.2.2.1.1.1.1 t.2.2.1.1.1.2 t.2.2.1.1.2.1 t.2.2.1.1.2.2 t.2.2.1.2.1.1 t.2.2.1.2.1.2 t.2.2.1.2.2 t.2.2.2.1.1.1 t.2.2.2.1.1.2 t.2.2.2.1.2 t.2.2.2.2.1.1 t.2.2.2.2.1.2 t.2.2.2.2.2
@[irreducible] def v9 : T9 := ch9 (by k_extra "NE") U9
theorem spec9 : U9 v9 → ∀ t, U9 t := by with_unfolding_all exact sp9 _ U9
theorem core9 : U9 v9 := by
  refine (let prog := v9.1.1.1.1.1.1; let w := v9.1.1.1.1.1.2; let loose := v9.1.1.1.1.2.1; let mean := v9.1.1.1.1.2.2; let mg := v9.1.1.1.2.1.1; let mb := v9.1.1.1.2.1.2; let rest := v9.1.1.1.2.2; let fa := v9.1.1.2.1.1.1; let L := v9.1.1.2.1.1.2; let SP := v9.1.1.2.1.2; let TD := v9.1.1.2.2.1.1; let ML := v9.1.1.2.2.1.2; let c := v9.1.1.2.2.2; let cd := v9.1.2.1.1.1.1; let g := v9.1.2.1.1.1.2; let s := v9.1.2.1.1.2.1; let m := v9.1.2.1.1.2.2; let Q := v9.1.2.1.2.1.1; let E := v9.1.2.1.2.1.2; let o1 := v9.1.2.1.2.2; let o2 := v9.1.2.2.1.1.1; let o3 := v9.1.2.2.1.1.2; let o4 := v9.1.2.2.1.2; let o5 := v9.1.2.2.2.1.1; let o6 := v9.1.2.2.2.1.2; let o7 := v9.1.2.2.2.2; let od := v9.2.1.1.1.1.1; let oc := v9.2.1.1.1.1.2; let o59 := v9.2.1.1.1.2.1; let o66 := v9.2.1.1.1.2.2; let fz := v9.2.1.1.2.1.1; let ON := v9.2.1.1.2.1.2; let lv := v9.2.1.1.2.2; let as := v9.2.1.2.1.1.1; let cs := v9.2.1.2.1.1.2; let pc := v9.2.1.2.1.2; let n3 := v9.2.1.2.2.1.1; let lc := v9.2.1.2.2.1.2; let tl := v9.2.1.2.2.2; let t1 := v9.2.2.1.1.1.1; let t3 := v9.2.2.1.1.1.2; let t4 := v9.2.2.1.1.2.1; let ln := v9.2.2.1.1.2.2; let pp := v9.2.2.1.2.1.1; let uu := v9.2.2.1.2.1.2; let m1 := v9.2.2.1.2.2; let m2 := v9.2.2.2.1.1.1; let kvs := v9.2.2.2.1.1.2; let pv := v9.2.2.2.1.2; let pd := v9.2.2.2.2.1.1; let ps := v9.2.2.2.2.1.2; let K := v9.2.2.2.2.2; (?_ : Claim9 prog w loose mean mg mb rest fa L SP TD ML c cd g s m Q E o1 o2 o3 o4 o5 o6 o7 od oc o59 o66 fz ON lv as cs pc n3 lc tl t1 t3 t4 ln pp uu m1 m2 kvs pv pd ps K))
  clear_value prog w loose mean mg mb rest fa L SP TD ML c cd g s m Q E o1 o2 o3 o4 o5 o6 o7 od oc o59 o66 fz ON lv as cs pc n3 lc tl t1 t3 t4 ln pp uu m1 m2 kvs pv pd ps K
  intro qual scope body st H hst B F X T N hlt hch hP h59 h66 h5 h6 h7 hTD hd hcov hc hc31 hoc hm d1 d2 d3 d4 hp hm2 hpI hpl hpr hpd hON hONm hlv hcl haS hal hdiv ret
  revert ret
  refine law_cc (ε := envOfC qual scope L fa cd) rfl rfl H hst rfl ?_
  clear H hst
  intro ret
  have hcu9 := hch
  unfold Mach.chain Chain10 at hcu9
  have S9 : Srt [31, 59, 66, L, L + 1, L + 1 + 1, L + 1 + 1 + 1, L + 1 + 1 + 1 + 1, L + 1 + 1 + 1 + 1 + 1, L + 1 + 1 + 1 + 1 + 1 + 1, L + 1 + 1 + 1 + 1 + 1 + 1 + 1, ML, SP, K.cT, K.cA, K.A, K.c, K.Fn, K.S, K.dS, K.d, K.M, K.P] := srt_c (by decide) <| srt_c (by decide) <| srt_c (hlt.1) <| srt_c (Nat.lt_succ_self _) <| srt_c (Nat.lt_succ_self _) <| srt_c (Nat.lt_succ_self _) <| srt_c (Nat.lt_succ_self _) <| srt_c (Nat.lt_succ_self _) <| srt_c (Nat.lt_succ_self _) <| srt_c (Nat.lt_succ_self _) <| srt_c (hlt.2.1) <| srt_c (hlt.2.2.1) <| srt_c (hlt.2.2.2) <| srt_c (hcu9.1) <| srt_c (hcu9.2.1) <| srt_c (hcu9.2.2.1) <| srt_c (hcu9.2.2.2.1) <| srt_c (hcu9.2.2.2.2.1) <| srt_c (hcu9.2.2.2.2.2.1) <| srt_c (hcu9.2.2.2.2.2.2.1) <| srt_c (hcu9.2.2.2.2.2.2.2.1) <| srt_c (hcu9.2.2.2.2.2.2.2.2) <| srt_1
  clear hcu9
  have hvl := hpI.length
  have hcu := hch
  unfold Mach.chain Chain10 at hcu
  have F1 := fr_know2 F hm hON
  clear F
  (try dsimp only)
  repeat' (first | ((fail_if_success (with_reducible show wpAny _ _ (call (Value.ref 184) _) _ _ _)); k_extra "STEP1"))
  have e1 : AllNe K.P ((K.M, instObj 137 K.d) :: (K.d, K.dict ln tl) :: (SP, W.listOf pv.toArray pc) :: (31, tabIn c) :: (ML, W.listOf #[.int m1 t3, .int m2 t4] 0) :: (L + 1 + 1 + 1 + 1 + 1 + 1 + 1, o7) :: (L + 1 + 1 + 1 + 1 + 1 + 1, o6) :: (L + 1 + 1 + 1 + 1 + 1, o5) :: (L + 1 + 1 + 1 + 1, o4) :: (L + 1 + 1 + 1, o3) :: (L + 1 + 1, o2) :: (L + 1, o1) :: fz) := by repeat' (first | (with_reducible assumption) | (refine allNe_cons (by dsimp only; omega) ?_))
  have e2 : AllNe 59 ((K.M, instObj 137 K.d) :: (K.d, K.dict ln tl) :: (SP, W.listOf pv.toArray pc) :: (31, tabIn c) :: (ML, W.listOf #[.int m1 t3, .int m2 t4] 0) :: (L + 1 + 1 + 1 + 1 + 1 + 1 + 1, o7) :: (L + 1 + 1 + 1 + 1 + 1 + 1, o6) :: (L + 1 + 1 + 1 + 1 + 1, o5) :: (L + 1 + 1 + 1 + 1, o4) :: (L + 1 + 1 + 1, o3) :: (L + 1 + 1, o2) :: (L + 1, o1) :: fz) := by repeat' (first | (with_reducible assumption) | (refine allNe_cons (by dsimp only; omega) ?_))
  have e3 : AllNe 66 ((K.M, instObj 137 K.d) :: (K.d, K.dict ln tl) :: (SP, W.listOf pv.toArray pc) :: (31, tabIn c) :: (ML, W.listOf #[.int m1 t3, .int m2 t4] 0) :: (L + 1 + 1 + 1 + 1 + 1 + 1 + 1, o7) :: (L + 1 + 1 + 1 + 1 + 1 + 1, o6) :: (L + 1 + 1 + 1 + 1 + 1, o5) :: (L + 1 + 1 + 1 + 1, o4) :: (L + 1 + 1 + 1, o3) :: (L + 1 + 1, o2) :: (L + 1, o1) :: fz) := by repeat' (first | (with_reducible assumption) | (refine allNe_cons (by dsimp only; omega) ?_))
  refine wpAny_call ?_
  k_dflt (refine' conD_use (rest := (K.M, instObj 137 K.d) :: (K.d, K.dict ln tl) :: (SP, W.listOf pv.toArray pc) :: (31, tabIn c) :: (ML, W.listOf #[.int m1 t3, .int m2 t4] 0) :: (L + 1 + 1 + 1 + 1 + 1 + 1 + 1, o7) :: (L + 1 + 1 + 1 + 1 + 1 + 1, o6) :: (L + 1 + 1 + 1 + 1 + 1, o5) :: (L + 1 + 1 + 1 + 1, o4) :: (L + 1 + 1 + 1, o3) :: (L + 1 + 1, o2) :: (L + 1, o1) :: fz) (round_con prog w loose mean mg mb K SP TD ON c od od oc _ _ pp uu m2 kvs fz pv lv pd ps as cs pc lc n3 ln tl _ _ hch hp hpI hpl.2 hpr hm2 hd hcov hcl hal haS hpd hlv (.inr hdiv) hc hc31 hoc hP h59 h66 (by omega) hTD hONm) ?d1 ?d2 B F1 X N T ?k6 ?ro ?mu ?re (off3 e1 e2 e3) ?_)
  case d1 => exact Nat.le_of_ble_eq_true rfl
  case d2 => exact Nat.le_of_ble_eq_true rfl
  case k6 => rfl
  case ro =>
    repeat (first | exact List.forall_mem_nil _ | ((refine List.forall_mem_cons.mpr ⟨?_, ?_⟩); focus ((repeat (first | exact .head _ | apply List.Mem.tail)); done)))
    intro q hq
    repeat (first | exact hq | apply List.Mem.tail)
  case mu =>
    repeat (first | exact List.forall_mem_nil _ | ((refine List.forall_mem_cons.mpr ⟨?_, ?_⟩); focus ((repeat (first | exact .head _ | apply List.Mem.tail)); done)))
  case re =>
    repeat (first | exact List.forall_mem_nil _ | ((refine List.forall_mem_cons.mpr ⟨?_, ?_⟩); focus ((repeat (first | exact .head _ | apply List.Mem.tail)); done)))
    intro q hq
    repeat (first | exact hq | apply List.Mem.tail)
  intro r mu' nw h' tk' dr' F' N' hR hn
  k_extra "g"
  refine ex_9 hR fun D mv n pd' n3' o59' o66' nl kjs k_ => and_7 k_ fun r1_ r2_ r3_ hv hmv hkp hpd' => ?_
  clear k_ hR
  subst r1_
  subst r2_
  subst r3_
  k_extra "h"
  have NB : News g L h' ((K.P, W.listOf pd'.toArray n3') :: (59, o59') :: (66, o66') :: (K.M, instObj 137 K.d) :: (K.d, K.dict ln tl) :: (SP, W.listOf pv.toArray pc) :: (31, tabIn c) :: (ML, W.listOf #[.int m1 t3, .int m2 t4] 0) :: (L + 1 + 1 + 1 + 1 + 1 + 1 + 1, o7) :: (L + 1 + 1 + 1 + 1 + 1 + 1, o6) :: (L + 1 + 1 + 1 + 1 + 1, o5) :: (L + 1 + 1 + 1 + 1, o4) :: (L + 1 + 1 + 1, o3) :: (L + 1 + 1, o2) :: (L + 1, o1) :: ((D, W.listOf mv.toArray n) :: (nl ++ fz))) := news_swp4 ((D, W.listOf mv.toArray n) :: nl) [_, _, _] [_, _, _, _, _, _, _, _, _, _, _, _] _ N'
  have key : ∀ x o, (x, o) ∈ _ → AllNe x fz → AllNe x ((D, W.listOf mv.toArray n) :: (nl ++ fz)) := fun x o hm ht => ⟨Ne.symm (allNe_to hn.1 (x, o) hm), allNe_app (allNe_nw hn.2 hm) ht⟩
  have k1 := key K.P (W.listOf pd.toArray n3) (by repeat' (first | exact .head _ | apply List.Mem.tail)) hP
  have k2 := key 59 o59 (by repeat' (first | exact .head _ | apply List.Mem.tail)) h59
  have k3 := key 66 o66 (by repeat' (first | exact .head _ | apply List.Mem.tail)) h66
  have k5 := key _ o5 (by repeat' (first | exact .head _ | apply List.Mem.tail)) h5
  have k6 := key _ o6 (by repeat' (first | exact .head _ | apply List.Mem.tail)) h6
  have k7 := key _ o7 (by repeat' (first | exact .head _ | apply List.Mem.tail)) h7
  clear N' N hn key
  k_extra "STEPSD"
  rename News g L _ _ => NB
  rename Fr g L _ _ => FB
  refine ret D mv n pd' n3' o59' o66' kjs ((D, W.listOf mv.toArray n) :: (nl ++ fz)) _ _ _ ?ff NB (fun q hq => .tail _ (List.mem_append.mpr (.inr hq))) k1 k2 k3 k5 k6 k7 (.head _) (hv.mono fun q hq => .tail _ hq) (lights_mono hmv fun q hq => .tail _ hq) hkp hpd'
  exact fr_unknow22 FB hm hON
end
end seg8
theorem seg8 {qual scope body st} (H : LawAt w qual scope body) (hst : body[8]? = some st) {rest : List Stmt} {fa L SP TD ML c : Addr} {cd : Value} {g : Heap} {s : Shared} {m : Str → Option Value} {Q : Flow → Shared → Prop} {E : Value → Shared → Prop} {o1 o2 o3 o4 o5 o6 o7 od oc o59 o66 : Obj} {fz : Led} {ON : Addr} {lv : List Value} {as : List Int} {cs : List Nat} {pc n3 lc : Nat} {tl t1 t3 t4 : Tok} {ln pp uu m1 m2 : Int} {kvs : List (Int × Value)} {pv pd : List Value} {ps : List Int} {K : Mach}
    (B : Below callerA g [] g) (F : Fr g L s.heap m) (X : (kf.heap_1 w.params).In g) (T : Top topProg loose mean mg mb g)
    (N : News g L s.heap ((K.P, W.listOf pd.toArray n3) :: (59, o59) :: (66, o66) :: (K.M, instObj 137 K.d) :: (K.d, K.dict ln tl) :: (SP, W.listOf pv.toArray pc) :: (31, tabIn c) :: (ML, W.listOf #[.int m1 t3, .int m2 t4] 0) :: (L + 1 + 1 + 1 + 1 + 1 + 1 + 1, o7) :: (L + 1 + 1 + 1 + 1 + 1 + 1, o6) :: (L + 1 + 1 + 1 + 1 + 1, o5) :: (L + 1 + 1 + 1 + 1, o4) :: (L + 1 + 1 + 1, o3) :: (L + 1 + 1, o2) :: (L + 1, o1) :: fz))
    (hlt : @LT.lt Nat _ 66 L ∧ @LT.lt Nat _ (L + 1 + 1 + 1 + 1 + 1 + 1 + 1) ML ∧ @LT.lt Nat _ ML SP ∧ @LT.lt Nat _ SP K.cT) (hch : K.chain) (hP : AllNe K.P fz) (h59 : AllNe 59 fz) (h66 : AllNe 66 fz) (h5 : AllNe (L + 1 + 1 + 1 + 1 + 1) fz) (h6 : AllNe (L + 1 + 1 + 1 + 1 + 1 + 1) fz) (h7 : AllNe (L + 1 + 1 + 1 + 1 + 1 + 1 + 1) fz)
    (hTD : (TD, od) ∈ fz) (hd : od.IsDictOf (intKind prog w) kvs) (hcov : ∀ y ∈ ps, TabHas kvs fz ps uu pp ((m2 * y).fmod pp)) (hc : (c, oc) ∈ fz) (hc31 : @LT.lt Nat _ 31 c) (hoc : CodeAs oc QS)
    (hm : m (Str.ofString "many") = some (.ref ML)) (d1 : o1.data = .cell (some (.int pp t1))) (d2 : o2.data = .cell (some (.ref SP))) (d3 : o3.data = .cell (some (.ref K.M))) (d4 : o4.data = .cell (some (.ref TD)))
    (hp : PrimeOk pp) (hm2 : 1 ≤ m2 ∧ m2 ≤ 36) (hpI : IntsAre pv ps) (hpl : 1 ≤ ps.length ∧ ps.length ≤ 6) (hpr : ∀ y ∈ ps, 1 ≤ y ∧ y ≤ 36) (hpd : StrsAre pd (as.map showI)) (hON : m (Str.ofString "once") = some (.ref ON)) (hONm : (ON, W.listOf lv.toArray lc) ∈ fz) (hlv : PySem.Paired (LightAt fz) lv cs) (hcl : as.length = cs.length) (haS : ∀ y ∈ as, y ∈ ps) (hal : 1 ≤ as.length ∧ as.length ≤ 6) (hdiv : DivSt o59 o66 fz)
    (ret : ∀ D mv n pd' n3' o59' o66' kjs fz' h' tk' dr', Fr g L h' (fun y => if y = Str.ofString "twice" then some (.ref D) else m y) → News g L h' ((K.P, W.listOf (pd' : List Value).toArray n3') :: (59, o59') :: (66, o66') :: (K.M, instObj 137 K.d) :: (K.d, K.dict ln tl) :: (SP, W.listOf pv.toArray pc) :: (31, tabIn c) :: (ML, W.listOf #[.int m1 t3, .int m2 t4] 0) :: (L + 1 + 1 + 1 + 1 + 1 + 1 + 1, o7) :: (L + 1 + 1 + 1 + 1 + 1 + 1, o6) :: (L + 1 + 1 + 1 + 1 + 1, o5) :: (L + 1 + 1 + 1 + 1, o4) :: (L + 1 + 1 + 1, o3) :: (L + 1 + 1, o2) :: (L + 1, o1) :: fz') →
      (∀ p ∈ fz, p ∈ fz') → AllNe K.P fz' → AllNe 59 fz' → AllNe 66 fz' → AllNe (L + 1 + 1 + 1 + 1 + 1) fz' → AllNe (L + 1 + 1 + 1 + 1 + 1 + 1) fz' → AllNe (L + 1 + 1 + 1 + 1 + 1 + 1 + 1) fz' →
      (D, W.listOf (mv : List Value).toArray n) ∈ fz' → DivSt o59' o66' fz' → PySem.Paired (LightAt fz') mv (List.zipWith (fun c (k : Nat × Nat) => (c + k.2) % 6) cs kjs) → PySem.Paired (fun (kj : Nat × Nat) a => At ps uu pp ((m2 * a).fmod pp) kj.1 kj.2) kjs as → StrsAre pd' ((kjs.map fun kj => ps.getD kj.1 0).map showI) →
      wpAny (model prog w) (callerA.deeper (envOfC qual scope L fa cd)) (execs rest (envOfC qual scope L fa cd)) Q E { s with heap := h', toks := tk', drawn := dr' }) :
    wpAny (model prog w) (callerA.deeper (envOfC qual scope L fa cd)) (execs (st :: rest) (envOfC qual scope L fa cd)) Q E s := ((seg8.spec9 seg8.core9 ((((((prog, w), (loose, mean)), ((mg, mb), rest)), (((fa, L), SP), ((TD, ML), c))), ((((cd, g), (s, m)), ((Q, E), o1)), (((o2, o3), o4), ((o5, o6), o7)))), (((((od, oc), (o59, o66)), ((fz, ON), lv)), (((as, cs), pc), ((n3, lc), tl))), ((((t1, t3), (t4, ln)), ((pp, uu), m1)), (((m2, kvs), pv), ((pd, ps), K))))) : seg8.Claim9 prog w loose mean mg mb rest fa L SP TD ML c cd g s m Q E o1 o2 o3 o4 o5 o6 o7 od oc o59 o66 fz ON lv as cs pc n3 lc tl t1 t3 t4 ln pp uu m1 m2 kvs pv pd ps K)) qual scope body st H hst B F X T N hlt hch hP h59 h66 h5 h6 h7 hTD hd hcov hc hc31 hoc hm d1 d2 d3 d4 hp hm2 hpI hpl hpr hpd hON hONm hlv hcl haS hal hdiv ret
end
end
section
open L_P L_R L_T2 L_L L_X L_Y L_N
section
variable (prog : Program) (w : World) (loose : List Str) (mean : ExcName → Option Value) (mg mb : Str → Option Value)
theorem seg9 {qual scope body st} (H : LawAt w qual scope body) (hst : body[9]? = some st) {rest : List Stmt} {fa L ML : Addr} {cd : Value} {g : Heap} {s : Shared} {m : Str → Option Value} {Q : Flow → Shared → Prop} {E : Value → Shared → Prop} {o5 : Obj} {fz : Led} {t3 t4 : Tok} {m1 m2 : Int}
    (B : Below callerA g [] g) (F : Fr g L s.heap m) (X : (kf.heap_1 w.params).In g) (T : Top topProg loose mean mg mb g)
    (N : News g L s.heap ((ML, W.listOf #[.int m1 t3, .int m2 t4] 0) :: (L + 1 + 1 + 1 + 1 + 1, o5) :: fz)) (hlt : @LT.lt Nat _ (L + 1 + 1 + 1 + 1 + 1) ML) (h5 : AllNe (L + 1 + 1 + 1 + 1 + 1) fz)
    (hm : m (Str.ofString "many") = some (.ref ML)) (d5 : o5.data = .cell none) (hm1 : 1 ≤ m1 ∧ m1 ≤ 36) (hm2 : 1 ≤ m2 ∧ m2 ≤ 36)
    (ret : ∀ o5' t5 h' tk', Fr g L h' m → News g L h' ((ML, W.listOf #[.int m1 t3, .int m2 t4] 0) :: (L + 1 + 1 + 1 + 1 + 1, o5') :: fz) → o5'.data = .cell (some (.int (m1 * m2) t5)) →
      wpAny (model prog w) (callerA.deeper (envOfC qual scope L fa cd)) (execs rest (envOfC qual scope L fa cd)) Q E { s with heap := h', toks := tk' }) :
    wpAny (model prog w) (callerA.deeper (envOfC qual scope L fa cd)) (execs (st :: rest) (envOfC qual scope L fa cd)) Q E s := by
  revert ret
  refine law_cc (ε := envOfC qual scope L fa cd) rfl rfl H hst rfl ?_
  clear H hst
  intro ret
  have F1 := fr_know F hm
  clear F
  (try dsimp only)
  k_extra "STEPSD"
  rename News g L _ _ => NB
  rename Fr g L _ _ => FB
  (repeat walk_at "LEAVE9")
  exact ret _ _ _ _ (fr_unknow FB hm) NB (by assumption)
def RowAt (ts : Led) (ps : List Int) (u p x : Int) (y : Value) : Prop := ∃ D zs n, y = .ref D ∧ (D, W.listOf (zs : List Value).toArray n) ∈ ts ∧ PySem.Paired (fun z v => PlaceAt ts ps u p ((x * v).fmod p) z) zs ps
theorem PlaceAt.mono {ts ts' : Led} {xs : List Int} {u p v : Int} {y : Value} (h : PlaceAt ts xs u p v y) (hs : ∀ q ∈ ts, q ∈ ts') : PlaceAt ts' xs u p v y := by
  k_extra "g"
  refine ex_5 h fun T t1 t2 k j k_ => and_3 k_ fun h1 h2 h3 => ?_
  clear k_ h
  k_extra "h"
  exact ⟨T, t1, t2, k, j, h1, hs _ h2, h3⟩
theorem paired_mono {α β : Type} {R R' : α → β → Prop} {as : List α} {bs : List β} (h : PySem.Paired R as bs) (hr : ∀ a b, R a b → R' a b) : PySem.Paired R' as bs := by
  induction h with
  | nil => exact .nil
  | cons a _ ih => exact .cons (hr _ _ a) ih
theorem RowAt.mono {ts ts' : Led} {ps : List Int} {u p x : Int} {y : Value} (h : RowAt ts ps u p x y) (hs : ∀ q ∈ ts, q ∈ ts') : RowAt ts' ps u p x y := by
  k_extra "g"
  obtain ⟨D, zs, n, h1, h2, h3⟩ := h
  k_extra "h"
  exact ⟨D, zs, n, h1, hs _ h2, paired_mono h3 fun _ _ q => q.mono hs⟩
namespace seg10
noncomputable section
def Claim9 (prog : Program) (w : World) (loose : List Str) (mean : ExcName → Option Value) (mg mb : Str → Option Value) (rest : List Stmt) (fa L SP TD c1 c2 : Addr) (cd : Value) (g : Heap) (s : Shared) (m : Str → Option Value) (Q : Flow → Shared → Prop) (E : Value → Shared → Prop) (o1 o2 o4 o5 o6 o7 od oc1 oc2 : Obj) (fz : Led) (pc n3 : Nat) (t1 t2 t5 : Tok) (pp uu pr : Int) (kvs : List (Int × Value)) (pv pd : List Value) (ps : List Int) (K : Mach) : Prop := ∀ qual scope body st (H : LawAt w qual scope body) (hst : body[10]? = some st) (B : Below callerA g [] g) (F : Fr g L s.heap m) (X : (kf.heap_1 w.params).In g) (T : Top topProg loose mean mg mb g) (N : News g L s.heap ((K.P, W.listOf pd.toArray n3) :: (59, tabI2 c1) :: (66, tabD2 c2) :: (SP, W.listOf pv.toArray pc) :: (L + 1 + 1 + 1 + 1 + 1 + 1 + 1, o7) :: (L + 1 + 1 + 1 + 1 + 1 + 1, o6) :: (L + 1 + 1 + 1 + 1 + 1, o5) :: (L + 1 + 1 + 1 + 1, o4) :: (L + 1 + 1, o2) :: (L + 1, o1) :: fz)) (hP : AllNe K.P fz) (h6 : AllNe (L + 1 + 1 + 1 + 1 + 1 + 1) fz) (h7 : AllNe (L + 1 + 1 + 1 + 1 + 1 + 1 + 1) fz) (hTD : (TD, od) ∈ fz) (hd : od.IsDictOf (intKind prog w) kvs) (hcov : ∀ b ∈ [1, -1, uu], ∀ y ∈ ps, TabHas kvs fz ps uu pp ((pr * b * y).fmod pp)) (hc1 : (c1, oc1) ∈ fz) (hc2 : (c2, oc2) ∈ fz) (h66c : @LT.lt Nat _ 66 c1) (hc12 : @LT.lt Nat _ c1 c2) (ho1 : CodeAs oc1 QI) (ho2 : CodeAs oc2 QD) (hm : m (Str.ofString "unit") = some (.int uu t2)) (d1 : o1.data = .cell (some (.int pp t1))) (d2 : o2.data = .cell (some (.ref SP))) (d4 : o4.data = .cell (some (.ref TD))) (d5 : o5.data = .cell (some (.int pr t5))) (hp : PrimeOk pp) (hu : 3 < uu ∧ uu < 12) (hpr0 : 1 ≤ pr ∧ pr ≤ 1296) (hpI : IntsAre pv ps) (hpl : ps.length ≤ 6) (hpr : ∀ y ∈ ps, 1 ≤ y ∧ y ≤ 36) (ret : ∀ D rv n fz' h' tk', Fr g L h' (fun y => if y = Str.ofString "rows" then some (.ref D) else m y) → News g L h' ((K.P, W.listOf pd.toArray n3) :: (59, tabI2 c1) :: (66, tabD2 c2) :: (SP, W.listOf pv.toArray pc) :: (L + 1 + 1 + 1 + 1 + 1 + 1 + 1, o7) :: (L + 1 + 1 + 1 + 1 + 1 + 1, o6) :: (L + 1 + 1 + 1 + 1 + 1, o5) :: (L + 1 + 1 + 1 + 1, o4) :: (L + 1 + 1, o2) :: (L + 1, o1) :: fz') →
      (∀ p ∈ fz, p ∈ fz') → AllNe K.P fz' → AllNe (L + 1 + 1 + 1 + 1 + 1 + 1) fz' → AllNe (L + 1 + 1 + 1 + 1 + 1 + 1 + 1) fz' →
      (D, W.listOf (rv : List Value).toArray n) ∈ fz' → PySem.Paired (fun y b => RowAt fz' ps uu pp (pr * b) y) rv [1, -1, uu] →
      wpAny (model prog w) (callerA.deeper (envOfC qual scope L fa cd)) (execs rest (envOfC qual scope L fa cd)) Q E { s with heap := h', toks := tk' }), wpAny (model prog w) (callerA.deeper (envOfC qual scope L fa cd)) (execs (st :: rest) (envOfC qual scope L fa cd)) Q E s
abbrev T9 : Type := ((((((Program × World) × (List Str)) × (((ExcName → Option Value) × (Str → Option Value)) × (Str → Option Value))) × ((((List Stmt) × Addr) × Addr) × (Addr × Addr))) × ((((Addr × Addr) × Value) × (Heap × Shared)) × ((((Str → Option Value) × (Flow → Shared → Prop)) × (Value → Shared → Prop)) × (Obj × Obj)))) × (((((Obj × Obj) × Obj) × ((Obj × Obj) × Obj)) × (((Obj × Led) × Nat) × (Nat × Tok))) × ((((Tok × Tok) × Int) × (Int × Int)) × ((((List (Int × Value)) × (List Value)) × (List Value)) × ((List Int) × Mach)))))
def U9 (t : T9) : Prop := Claim9 t.1.1.1.1.1.1 t.1.1.1.1.1.2 t.1.1.1.1.2 t.1.1.1.2.1.1 t.1.1.1.2.1.2 t.1.1.1.2.2 t.1.1.2.1.1.1 t.1.1.2.1.1.2 t.1.1.2.1.2 t.1.1.2.2.1 t.1.1.2.2.2 t.1.2.1.1.1.1 t.1.2.1.1.1.2 t.1.2.1.1.2 t.1.2.1.2.1 t.1.2.1.2.2 t.1.2.2.1.1.1 t.1.2.2.1.1.2 t.1.2.2.1.2 t.1.2.2.2.1 t.1.2.2.2.2 t.2.1.1.1.1.1 t.2.1.1.1.1.2 t.2.1.1.1.2 t.2.1.1.2.1.1 t.2.1.1.2.1.2 t.2.1.1.2.2 t.2.1.2.1.1.1 t.2.1.2.1.1.2 t.2.1.2.1.2 t.2.1.2.2.1 t.2.1.2.2.2 t.2.2.1.1.1.1 t.2.2.1.1.1.2 t.2.2.1.1.2 t.2.2.1.2.1 t.2.2.1.2.2 t.2.2.2.1.1.1 t.2.2.2.1.1.2 t.2.2.2.1.2 t.2.2.2.2.1 t.2.2.2.2.2
@[irreducible] def v9 : T9 := ch9 (by k_extra "NE") U9
theorem spec9 : U9 v9 → ∀ t, U9 t := by with_unfolding_all exact sp9 _ U9
theorem core9 : U9 v9 := by
  refine (let prog := v9.1.1.1.1.1.1; let w := v9.1.1.1.1.1.2; let loose := v9.1.1.1.1.2; let mean := v9.1.1.1.2.1.1; let mg := v9.1.1.1.2.1.2; let mb := v9.1.1.1.2.2; let rest := v9.1.1.2.1.1.1; let fa := v9.1.1.2.1.1.2; let L := v9.1.1.2.1.2; let SP := v9.1.1.2.2.1; let TD := v9.1.1.2.2.2; let c1 := v9.1.2.1.1.1.1; let c2 := v9.1.2.1.1.1.2; let cd := v9.1.2.1.1.2; let g := v9.1.2.1.2.1; let s := v9.1.2.1.2.2; let m := v9.1.2.2.1.1.1; let Q := v9.1.2.2.1.1.2; let E := v9.1.2.2.1.2; let o1 := v9.1.2.2.2.1; let o2 := v9.1.2.2.2.2; let o4 := v9.2.1.1.1.1.1; let o5 := v9.2.1.1.1.1.2; let o6 := v9.2.1.1.1.2; let o7 := v9.2.1.1.2.1.1; let od := v9.2.1.1.2.1.2; let oc1 := v9.2.1.1.2.2; let oc2 := v9.2.1.2.1.1.1; let fz := v9.2.1.2.1.1.2; let pc := v9.2.1.2.1.2; let n3 := v9.2.1.2.2.1; let t1 := v9.2.1.2.2.2; let t2 := v9.2.2.1.1.1.1; let t5 := v9.2.2.1.1.1.2; let pp := v9.2.2.1.1.2; let uu := v9.2.2.1.2.1; let pr := v9.2.2.1.2.2; let kvs := v9.2.2.2.1.1.1; let pv := v9.2.2.2.1.1.2; let pd := v9.2.2.2.1.2; let ps := v9.2.2.2.2.1; let K := v9.2.2.2.2.2; (?_ : Claim9 prog w loose mean mg mb rest fa L SP TD c1 c2 cd g s m Q E o1 o2 o4 o5 o6 o7 od oc1 oc2 fz pc n3 t1 t2 t5 pp uu pr kvs pv pd ps K))
  clear_value prog w loose mean mg mb rest fa L SP TD c1 c2 cd g s m Q E o1 o2 o4 o5 o6 o7 od oc1 oc2 fz pc n3 t1 t2 t5 pp uu pr kvs pv pd ps K
  intro qual scope body st H hst B F X T N hP h6 h7 hTD hd hcov hc1 hc2 h66c hc12 ho1 ho2 hm d1 d2 d4 d5 hp hu hpr0 hpI hpl hpr ret
  revert ret
  refine law_cc (ε := envOfC qual scope L fa cd) rfl rfl H hst rfl ?_
  clear H hst
  intro ret
  have hvl := hpI.length
  have F1 := fr_know F hm
  clear F
  (try dsimp only)
  k_extra "TOLC"
  rename (@LT.lt Nat _ K.P _ ∧ _) => lB
  rename News g L _ _ => NB
  rename Fr g L _ _ => FB
  rename_i LB hB
  k_extra "g"
  obtain ⟨bv, hbv, NB⟩ : ∃ bv, IntsAre bv [1, -1, uu] ∧ News g L hB ((LB, W.listOf bv.toArray 0) :: (K.P, W.listOf pd.toArray n3) :: (59, tabI2 c1) :: (66, tabD2 c2) :: (SP, W.listOf pv.toArray pc) :: (L + 1 + 1 + 1 + 1 + 1 + 1 + 1, o7) :: (L + 1 + 1 + 1 + 1 + 1 + 1, o6) :: (L + 1 + 1 + 1 + 1 + 1, o5) :: (L + 1 + 1 + 1 + 1, o4) :: (L + 1 + 1, o2) :: (L + 1, o1) :: fz) := ⟨_, .cons _ _ (.cons _ _ (.cons _ _ .nil)), NB⟩
  k_extra "h"
  have hbl := hbv.length
  refine lc_listA (vs := bv) (ax := LB) (c := 0) (Dr := fun d => d = s.drawn) (fun i ys led => ∃ rs, led = (LB, W.listOf bv.toArray 0) :: (K.P, W.listOf pd.toArray n3) :: (59, tabI2 c1) :: (66, tabD2 c2) :: (SP, W.listOf pv.toArray pc) :: (L + 1 + 1 + 1 + 1 + 1 + 1 + 1, o7) :: (L + 1 + 1 + 1 + 1 + 1 + 1, o6) :: (L + 1 + 1 + 1 + 1 + 1, o5) :: (L + 1 + 1 + 1 + 1, o4) :: (L + 1 + 1, o2) :: (L + 1, o1) :: (rs ++ fz) ∧ PySem.Paired (fun y b => RowAt (rs ++ fz) ps uu pp (pr * b) y) ys (([1, -1, uu] : List Int).take i) ∧ AllNe K.P rs ∧ AllNe (L + 1 + 1 + 1 + 1 + 1 + 1) rs ∧ AllNe (L + 1 + 1 + 1 + 1 + 1 + 1 + 1) rs) ?hh ?hcell ?hkind ?hx FB NB ?hl ?hn ?hD ?hJ ?turn ?fin
  case hh => rfl
  case hcell => decide
  case hkind => rfl
  case hx => rfl
  case hl => exact .head _
  case hn => rw [hbl]; exact Nat.le_of_ble_eq_true rfl
  case hD => rfl
  case hJ => exact ⟨[], rfl, .nil, trivial, trivial, trivial⟩
  case turn =>
    intro i v ys led I oI C oC D2 m₂ h tk dr E' hv hi hdr hyl hC hx F2 N2 off hne hlt2 hIl hS hJ
    k_extra "g"
    refine ex_1 hJ fun rs k_ => and_5 k_ fun r1_ hys hr1 hr2 hr3 => ?_
    clear k_ hJ
    subst r1_
    subst hdr
    clear hS NB FB
    obtain ⟨b, tb, rfl, hb⟩ := ints_get hbv i v hv
    k_extra "h"
    have hbm : b ∈ [1, -1, uu] := List.mem_of_getElem? hb
    have hcb := hcov b hbm
    have hbb : -1 ≤ b ∧ b ≤ 11 := by
      simp only [List.mem_cons, List.not_mem_nil, or_false] at hbm
      omega
    have hxb : -1296 ≤ pr * b ∧ pr * b ≤ 14256 := by
      k_extra "g"
      obtain ⟨e, he⟩ : ∃ e, b = -1 ∨ (0 ≤ b ∧ b = e) := ⟨b, by omega⟩
      k_extra "h"
      k_extra "g"
      rcases he with rfl | ⟨h0, _⟩ <;> k_extra "h"
      · omega
      · have a1 : 0 ≤ pr * b := Int.mul_nonneg (by omega) h0
        have a2 : pr * b ≤ 1296 * 11 := Int.mul_le_mul hpr0.2 hbb.2 h0 (by decide)
        omega
    (first | (refine opq_turn ?_; intro QT9 hT9) | (refine opq_V ?_; intro QT9 hT9))
    repeat' (first | ((fail_if_success (with_reducible show wpAny _ _ (call (Value.ref 189) _) _ _ _)); k_extra "STEP1"))
    have hsub : ∀ q ∈ fz, q ∈ rs ++ fz := fun q hq => List.mem_append.mpr (.inr hq)
    have hbd : ∀ y ∈ ps, -2 ^ 20 ≤ pr * b * y ∧ pr * b * y < 2 ^ 20 := fun y hy => by
      have hy2 := hpr y hy
      k_extra "g"
      rcases Int.le_total 0 (pr * b) with h0 | h0 <;> k_extra "h"
      · have a1 : 0 ≤ pr * b * y := Int.mul_nonneg h0 (by omega)
        have a2 : pr * b * y ≤ 14256 * 36 := Int.mul_le_mul hxb.2 hy2.2 (by omega) (by decide)
        omega
      · have a1 : 0 ≤ -(pr * b) * y := Int.mul_nonneg (by omega) (by omega)
        have a2 : -(pr * b) * y ≤ 1296 * 36 := Int.mul_le_mul (by omega) hy2.2 (by omega) (by decide)
        rw [Int.neg_mul] at a1 a2
        omega
    refine wpAny_call ?_
    k_dflt (refine' con_use0 (row_con prog w loose mean mg mb c2 c1 c2 TD SP oc2 oc1 oc2 od pp uu (pr * b) kvs (rs ++ fz) pv ps pc _ _ hp hpI hpl hd (by omega) (by omega) (Nat.le_refl _) ho1 ho2 (by omega) hpr hbd (fun y hy => (hcb y hy).mono hsub)) ?d1 ?d2 B F2 X N2 T ?k6 ?ro ?_)
    case d1 => exact Nat.le_of_ble_eq_true rfl
    case d2 => exact Nat.le_of_ble_eq_true rfl
    case k6 => rfl
    case ro =>
      have m1 := hsub _ hc1
      have m2 := hsub _ hc2
      have m3 := hsub _ hTD
      repeat (first | exact List.forall_mem_nil _ | ((refine List.forall_mem_cons.mpr ⟨?_, ?_⟩); focus ((repeat (first | exact .head _ | exact m1 | exact m2 | exact m3 | apply List.Mem.tail)); done)))
      intro q hq
      repeat (first | exact hq | apply List.Mem.tail)
    intro r mu' nw h' tk' F' N' hR hn
    k_extra "g"
    refine ex_2 hR fun R zs k_ => and_5 k_ fun r1_ r2_ r3_ hzR hps => ?_
    clear k_ hR
    subst r1_
    subst r2_
    subst r3_
    k_extra "h"
    have hR9 := hn.1
    have N9 : News g L h' ((R, LCg.lst zs) :: (I, oI) :: (C, oC) :: (D2, LCg.lst ys) :: (LB, W.listOf bv.toArray 0) :: (K.P, W.listOf pd.toArray n3) :: (59, tabI2 c1) :: (66, tabD2 c2) :: (SP, W.listOf pv.toArray pc) :: (L + 1 + 1 + 1 + 1 + 1 + 1 + 1, o7) :: (L + 1 + 1 + 1 + 1 + 1 + 1, o6) :: (L + 1 + 1 + 1 + 1 + 1, o5) :: (L + 1 + 1 + 1 + 1, o4) :: (L + 1 + 1, o2) :: (L + 1, o1) :: (rs ++ fz)) := N'
    (repeat walk_at "LEAVE9")
    refine exI_4 _ _ _ ((LB, W.listOf bv.toArray 0) :: (K.P, W.listOf pd.toArray n3) :: (59, tabI2 c1) :: (66, tabD2 c2) :: (SP, W.listOf pv.toArray pc) :: (L + 1 + 1 + 1 + 1 + 1 + 1 + 1, o7) :: (L + 1 + 1 + 1 + 1 + 1 + 1, o6) :: (L + 1 + 1 + 1 + 1 + 1, o5) :: (L + 1 + 1 + 1 + 1, o4) :: (L + 1 + 1, o2) :: (L + 1, o1) :: (((R, LCg.lst zs) :: rs) ++ fz)) ⟨rfl, rfl, F', ?nn, ⟨off.1, off.2.1, off.2.2.1, off.2.2.2.1, off.2.2.2.2.1, off.2.2.2.2.2.1, off.2.2.2.2.2.2.1, off.2.2.2.2.2.2.2.1, off.2.2.2.2.2.2.2.2.1, off.2.2.2.2.2.2.2.2.2.1, off.2.2.2.2.2.2.2.2.2.2.1, ⟨Ne.symm hR9.1, Ne.symm hR9.2.1, Ne.symm hR9.2.2.1⟩, off.2.2.2.2.2.2.2.2.2.2.2⟩, ⟨0, .head _⟩, (R, LCg.lst zs) :: rs, rfl, ?pp, ⟨Ne.symm hR9.2.2.2.2.1, hr1⟩, ⟨?q2, hr2⟩, ⟨?q3, hr3⟩⟩
    case nn =>
      have NB := N9
      k_extra "NWS"
    case q2 => exact Ne.symm hR9.2.2.2.2.2.2.2.2.2.1
    case q3 => exact Ne.symm hR9.2.2.2.2.2.2.2.2.1
    case pp =>
      rw [take_next hb]
      exact (paired_mono hys fun _ _ q => q.mono fun q hq => .tail _ hq).snoc ⟨R, zs, _, rfl, .head _, paired_mono hps fun _ _ q => q.mono fun q hq => .tail _ hq⟩
  case fin =>
    intro D2 C oC m₂ h tk dr ys led hbl2 hdr hyl hC F2 N2 p1 p2 p3 hS hJ
    clear hS
    k_extra "g"
    refine ex_1 hJ fun rs k_ => and_5 k_ fun r1_ hys hr1 hr2 hr3 => ?_
    clear k_ hJ
    subst r1_
    k_extra "h"
    subst hdr
    rw [hbl] at hys
    have q1 : @LT.lt Nat _ K.P D2 := hbl2 _ (.tail _ (.head _))
    have q2 : @LT.lt Nat _ (L + 1 + 1 + 1 + 1 + 1 + 1) D2 := hbl2 _ (mem_ix 6 rfl)
    have q3 : @LT.lt Nat _ (L + 1 + 1 + 1 + 1 + 1 + 1 + 1) D2 := hbl2 _ (mem_ix 5 rfl)
    clear hbl2
    k_extra "STEPSD"
    rename News g L _ _ => NB
    refine lgone_intro hC (by assumption) NB (by repeat' (first | exact .head _ | apply List.Mem.tail)) (led := (D2, LCg.lst ys) :: _) (fun p hp => by
      k_extra "g"
      rcases List.mem_cons.mp hp with rfl | hp <;> k_extra "h"
      · exact .head _
      · exact mem_dr 2 hp) ?ne2 ?go2
    case ne2 =>
      show AllNe C _
      exact ⟨fun e => p3 e.symm, p2⟩
    case go2 =>
      intro h' F' N'
      have NB := N'
      have hsub : ∀ q ∈ fz, q ∈ (D2, LCg.lst ys) :: (LB, W.listOf bv.toArray 0) :: (rs ++ fz) := fun q hq => .tail _ (.tail _ (List.mem_append.mpr (.inr hq)))
      (repeat walk_at "LEAVE9")
      refine ret D2 ys _ ((D2, LCg.lst ys) :: (LB, W.listOf bv.toArray 0) :: (rs ++ fz)) _ _ (fr_unknow2 F' hm) ?nn hsub ⟨Nat.ne_of_gt q1, Nat.ne_of_gt lB.1, allNe_app hr1 hP⟩ ⟨Nat.ne_of_gt q2, ?q6, allNe_app hr2 h6⟩ ⟨Nat.ne_of_gt q3, ?q7, allNe_app hr3 h7⟩ (.head _) (paired_mono hys fun _ _ q => q.mono fun q hq => mem_dr 2 hq)
      case nn => k_extra "NWS"
      case q6 =>
        show @Ne Nat _ _
        omega
      case q7 =>
        show @Ne Nat _ _
        omega
end
end seg10
theorem seg10 {qual scope body st} (H : LawAt w qual scope body) (hst : body[10]? = some st) {rest : List Stmt} {fa L SP TD c1 c2 : Addr} {cd : Value} {g : Heap} {s : Shared} {m : Str → Option Value} {Q : Flow → Shared → Prop} {E : Value → Shared → Prop} {o1 o2 o4 o5 o6 o7 od oc1 oc2 : Obj} {fz : Led} {pc n3 : Nat} {t1 t2 t5 : Tok} {pp uu pr : Int} {kvs : List (Int × Value)} {pv pd : List Value} {ps : List Int} {K : Mach}
    (B : Below callerA g [] g) (F : Fr g L s.heap m) (X : (kf.heap_1 w.params).In g) (T : Top topProg loose mean mg mb g)
    (N : News g L s.heap ((K.P, W.listOf pd.toArray n3) :: (59, tabI2 c1) :: (66, tabD2 c2) :: (SP, W.listOf pv.toArray pc) :: (L + 1 + 1 + 1 + 1 + 1 + 1 + 1, o7) :: (L + 1 + 1 + 1 + 1 + 1 + 1, o6) :: (L + 1 + 1 + 1 + 1 + 1, o5) :: (L + 1 + 1 + 1 + 1, o4) :: (L + 1 + 1, o2) :: (L + 1, o1) :: fz))
    (hP : AllNe K.P fz) (h6 : AllNe (L + 1 + 1 + 1 + 1 + 1 + 1) fz) (h7 : AllNe (L + 1 + 1 + 1 + 1 + 1 + 1 + 1) fz)
    (hTD : (TD, od) ∈ fz) (hd : od.IsDictOf (intKind prog w) kvs) (hcov : ∀ b ∈ [1, -1, uu], ∀ y ∈ ps, TabHas kvs fz ps uu pp ((pr * b * y).fmod pp)) (hc1 : (c1, oc1) ∈ fz) (hc2 : (c2, oc2) ∈ fz) (h66c : @LT.lt Nat _ 66 c1) (hc12 : @LT.lt Nat _ c1 c2) (ho1 : CodeAs oc1 QI) (ho2 : CodeAs oc2 QD)
    (hm : m (Str.ofString "unit") = some (.int uu t2)) (d1 : o1.data = .cell (some (.int pp t1))) (d2 : o2.data = .cell (some (.ref SP))) (d4 : o4.data = .cell (some (.ref TD))) (d5 : o5.data = .cell (some (.int pr t5)))
    (hp : PrimeOk pp) (hu : 3 < uu ∧ uu < 12) (hpr0 : 1 ≤ pr ∧ pr ≤ 1296) (hpI : IntsAre pv ps) (hpl : ps.length ≤ 6) (hpr : ∀ y ∈ ps, 1 ≤ y ∧ y ≤ 36)
    (ret : ∀ D rv n fz' h' tk', Fr g L h' (fun y => if y = Str.ofString "rows" then some (.ref D) else m y) → News g L h' ((K.P, W.listOf pd.toArray n3) :: (59, tabI2 c1) :: (66, tabD2 c2) :: (SP, W.listOf pv.toArray pc) :: (L + 1 + 1 + 1 + 1 + 1 + 1 + 1, o7) :: (L + 1 + 1 + 1 + 1 + 1 + 1, o6) :: (L + 1 + 1 + 1 + 1 + 1, o5) :: (L + 1 + 1 + 1 + 1, o4) :: (L + 1 + 1, o2) :: (L + 1, o1) :: fz') →
      (∀ p ∈ fz, p ∈ fz') → AllNe K.P fz' → AllNe (L + 1 + 1 + 1 + 1 + 1 + 1) fz' → AllNe (L + 1 + 1 + 1 + 1 + 1 + 1 + 1) fz' →
      (D, W.listOf (rv : List Value).toArray n) ∈ fz' → PySem.Paired (fun y b => RowAt fz' ps uu pp (pr * b) y) rv [1, -1, uu] →
      wpAny (model prog w) (callerA.deeper (envOfC qual scope L fa cd)) (execs rest (envOfC qual scope L fa cd)) Q E { s with heap := h', toks := tk' }) :
    wpAny (model prog w) (callerA.deeper (envOfC qual scope L fa cd)) (execs (st :: rest) (envOfC qual scope L fa cd)) Q E s := ((seg10.spec9 seg10.core9 ((((((prog, w), loose), ((mean, mg), mb)), (((rest, fa), L), (SP, TD))), ((((c1, c2), cd), (g, s)), (((m, Q), E), (o1, o2)))), (((((o4, o5), o6), ((o7, od), oc1)), (((oc2, fz), pc), (n3, t1))), ((((t2, t5), pp), (uu, pr)), (((kvs, pv), pd), (ps, K))))) : seg10.Claim9 prog w loose mean mg mb rest fa L SP TD c1 c2 cd g s m Q E o1 o2 o4 o5 o6 o7 od oc1 oc2 fz pc n3 t1 t2 t5 pp uu pr kvs pv pd ps K)) qual scope body st H hst B F X T N hP h6 h7 hTD hd hcov hc1 hc2 h66c hc12 ho1 ho2 hm d1 d2 d4 d5 hp hu hpr0 hpI hpl hpr ret
end
end
section
section
variable (prog : Program) (w : World) (loose : List Str) (mean : ExcName → Option Value) (mg mb : Str → Option Value)
section
variable {prog : Program} {w : World} {A : Around} {E : Value → Shared → Prop} {s : Shared} {h₀ : Heap} {L : Addr} {m : Str → Option Value} {env : Env}
theorem codeAny_compLoop_T {R : Result → Shared → Prop} {elt target iter : Expr} {ifs : List Expr} {scope : Scope} {pos : Pos} {it acc : Value} {env : Env} (I : Nat → Shared → Prop)
    (turn : ∀ n s, I n s → wpAny (model prog w) A (pyNext it) (fun r s₁ => match r with
      | none => R (.ok .next) s₁
      | some v => wpAny (model prog w) A (letOwnedTupleGo target it v) (fun _ s₁ => wpAny (model prog w) A (assign target env v) (fun _ s₂ =>
          wpAny (model prog w) A (forIn ifs true fun c r => if r = true then do let ok ← isTrue c env (eval c env); pure (ForInStep.yield ok) else pure (ForInStep.yield r)) (fun ok s₃ =>
            if ok = true then wpAny (model prog w) A (eval elt env) (fun x s₄ =>
              wpAny (model prog w) A (call (.builtin "list.append") [acc, x]) (fun _ s₅ => ∃ m, m < n ∧ I m s₅) (notedBy (model prog w) A env fun e s' => R (.error e) s') s₄) (notedBy (model prog w) A env fun e s' => R (.error e) s') s₃
            else ∃ m, m < n ∧ I m s₃) (notedBy (model prog w) A env fun e s' => R (.error e) s') s₂) (notedBy (model prog w) A env fun e s' => R (.error e) s') s₁) (notedBy (model prog w) A env fun e s' => R (.error e) s') s₁) (notedBy (model prog w) A env fun e s' => R (.error e) s') s)
    (n : Nat) (h : I n s) :
    codeAny (model prog w) A (.compLoop (.ListComp elt [⟨target, iter, ifs, 0⟩] scope pos) 0 it acc env) R s := by
  refine codeAny_loop rfl I (fun n s hI => ?_) n h
  show wpAny _ A ((compTurn (.ListComp elt [⟨target, iter, ifs, 0⟩] scope pos) 0 it acc env).onRaise (fun x => do noteFrame x env; theTreesLotGoes x)) _ _ s
  refine wpAny_noted ?_
  rw [compTurn_list]
  refine wpAny_bind (wpAny_standAt (wpAny_bind (wpAny_mono (turn n s hI) (fun r s₁ h₁ => ?_) fun _ _ h' => h')))
  cases r with
  | none => exact wpAny_pure h₁
  | some v =>
    refine wpAny_bind (wpAny_mono h₁ (fun _ s₁' h₁' => ?_) fun _ _ h' => h')
    refine wpAny_bind (wpAny_mono h₁' (fun _ s₂ h₂ => wpAny_bind (wpAny_mono h₂ (fun ok s₃ h₃ => ?_) fun _ _ h' => h')) fun _ _ h' => h')
    cases ok with
    | false => exact wpAny_pure ⟨rfl, h₃⟩
    | true =>
      exact wpAny_bind (wpAny_bind (wpAny_mono h₃ (fun x s₄ h₄ => wpAny_bind (wpAny_mono h₄ (fun _ s₅ h₅ => wpAny_pure (wpAny_pure ⟨rfl, h₅⟩)) fun _ _ h' => h')) fun _ _ h' => h'))
namespace lc_blockT
noncomputable section
def Claim9 (prog : Program) (w : World) (A : Around) (E : Value → Shared → Prop) (s : Shared) (h₀ : Heap) (L : Addr) (m : Str → Option Value) (env : Env) (elt iter : Expr) (xa xb : Str) (pa pb pt : Pos) (kt : Nat) (cl : List (Str × Addr)) (pos : Pos) (I ax : Addr) (fp : List Addr) (n : Nat) (P : Nat → Value → Prop) (St : Nat → Heap → Prop) (S : Led → Prop) (Dr : Drawn → Prop) (J : Nat → List Value → Led → Prop) (led0 : Led) : Prop := ∀ (scope : Scope) (RR : Value → Addr → Result → Shared → Prop) (hh : A.handled = none) (hab : xa ≠ xb) (W : Walks prog w A I fp [I] n P St) (hLI : ∀ i h, St i h → h.IsListIter I ax i) (hTup : ∀ i v ys led, P i v → S led → J i ys led → ∃ T va vb k, v = .ref T ∧ (T, ({ cls := .type "tuple", data := .seq #[va, vb] k } : Obj)) ∈ led) (hsz : n ≤ 1000) (hIo : ∀ i h, St i h → ∃ o, h.get? I = some o) (hSt : ∀ i h h' o nw, St i h → h.get? I = some o → h'.get? I = some o → (∀ b o, h₀.get? b = some o → h'.get? b = some o) → News h₀ L h' nw → S nw → St i h') (hcell : ∀ y ∈ scope.names, y.2 ≠ .cell) (hkind : scope.kind = .function) (hxa : scope.names.lookup xa = some .local) (hxb : scope.names.lookup xb = some .local) (hst : St 0 s.heap) (hfp : ∀ b ∈ fp, b < s.heap.objs.size) (F : Fr h₀ L s.heap m) (N : News h₀ L s.heap led0) (hIL : L ≠ I) (hI₀ : h₀.get? I = none) (off : ∀ p ∈ led0, p.1 ≠ I) (hS : S led0) (hD : Dr s.drawn) (hJ : J 0 [] led0) (turn : ∀ i v T va vb k ys led oI C oC D m₂ h tk dr (E' : Value → Shared → Prop), P i v → v = .ref T → (T, ({ cls := .type "tuple", data := .seq #[va, vb] k } : Obj)) ∈ led → i < n → Dr dr → ys.length = i → LCg.NsObj oC m₂ → m₂ xa = some va → m₂ xb = some vb → Fr h₀ L h m → News h₀ L h ((I, oI) :: (C, oC) :: (D, LCg.lst ys) :: led) → LCg.Off3 I C D led → ((@Ne Nat I C) ∧ (@Ne Nat I D) ∧ (@Ne Nat C D)) → (@LT.lt Nat _ I D ∧ @LT.lt Nat _ D C) → S led → J i ys led →
      wpAny (model prog w) A (eval elt (compEnvC scope cl C env)) (LBack h₀ L m s Dr I oI C oC D (LCg.lst ys) S (fun y led' => J (i + 1) (ys ++ [y]) led')) E' { s with heap := h, toks := tk, drawn := dr }) (hRR : ∀ D C h tk dr m' ys led, (∀ p ∈ led0, p.1 < D) → Dr dr → ys.length = n → Fr h₀ L h m → News h₀ L h ((D, LCg.lst ys) :: led) → (∀ p ∈ led, p.1 ≠ D) → h.Ns C m' → h₀.get? C = none → h₀.get? D = none → C ≠ L → D ≠ L → C ≠ D → (∀ p ∈ led, p.1 ≠ C) → S led → J n ys led → RR (.ref D) C (.ok .next) { s with heap := h, toks := tk, drawn := dr }), wpAny (model prog w) A (newList []) (fun acc s₃ => wpAny (model prog w) A (newFunctionEnv scope env.globals cl [] env.qual none .none (some env)) (fun cenv s₄ =>
      codeAny (model prog w) A (.compStart (.ListComp elt [⟨.Tuple [.Name xa pa, .Name xb pb] kt pt, iter, [], 0⟩] scope pos) 0 (.ref I) acc { cenv with scope := relabel scope env }) (RR acc cenv.locals) s₄) E s₃) E s
abbrev T9 : Type := (((((Program × World) × (Around × (Value → Shared → Prop))) × ((Shared × Heap) × (Addr × (Str → Option Value)))) × (((Env × Expr) × (Expr × Str)) × ((Str × Pos) × Pos))) × ((((Pos × Nat) × ((List (Str × Addr)) × Pos)) × ((Addr × Addr) × (List Addr))) × (((Nat × (Nat → Value → Prop)) × ((Nat → Heap → Prop) × (Led → Prop))) × (((Drawn → Prop) × (Nat → List Value → Led → Prop)) × Led))))
def U9 (t : T9) : Prop := Claim9 t.1.1.1.1.1 t.1.1.1.1.2 t.1.1.1.2.1 t.1.1.1.2.2 t.1.1.2.1.1 t.1.1.2.1.2 t.1.1.2.2.1 t.1.1.2.2.2 t.1.2.1.1.1 t.1.2.1.1.2 t.1.2.1.2.1 t.1.2.1.2.2 t.1.2.2.1.1 t.1.2.2.1.2 t.1.2.2.2 t.2.1.1.1.1 t.2.1.1.1.2 t.2.1.1.2.1 t.2.1.1.2.2 t.2.1.2.1.1 t.2.1.2.1.2 t.2.1.2.2 t.2.2.1.1.1 t.2.2.1.1.2 t.2.2.1.2.1 t.2.2.1.2.2 t.2.2.2.1.1 t.2.2.2.1.2 t.2.2.2.2
@[irreducible] def v9 : T9 := ch9 (by k_extra "NE") U9
theorem spec9 : U9 v9 → ∀ t, U9 t := by with_unfolding_all exact sp9 _ U9
theorem core9 : U9 v9 := by
  refine (let prog := v9.1.1.1.1.1; let w := v9.1.1.1.1.2; let A := v9.1.1.1.2.1; let E := v9.1.1.1.2.2; let s := v9.1.1.2.1.1; let h₀ := v9.1.1.2.1.2; let L := v9.1.1.2.2.1; let m := v9.1.1.2.2.2; let env := v9.1.2.1.1.1; let elt := v9.1.2.1.1.2; let iter := v9.1.2.1.2.1; let xa := v9.1.2.1.2.2; let xb := v9.1.2.2.1.1; let pa := v9.1.2.2.1.2; let pb := v9.1.2.2.2; let pt := v9.2.1.1.1.1; let kt := v9.2.1.1.1.2; let cl := v9.2.1.1.2.1; let pos := v9.2.1.1.2.2; let I := v9.2.1.2.1.1; let ax := v9.2.1.2.1.2; let fp := v9.2.1.2.2; let n := v9.2.2.1.1.1; let P := v9.2.2.1.1.2; let St := v9.2.2.1.2.1; let S := v9.2.2.1.2.2; let Dr := v9.2.2.2.1.1; let J := v9.2.2.2.1.2; let led0 := v9.2.2.2.2; (?_ : Claim9 prog w A E s h₀ L m env elt iter xa xb pa pb pt kt cl pos I ax fp n P St S Dr J led0))
  clear_value prog w A E s h₀ L m env elt iter xa xb pa pb pt kt cl pos I ax fp n P St S Dr J led0
  intro scope RR hh hab W hLI hTup hsz hIo hSt hcell hkind hxa hxb hst hfp F N hIL hI₀ off hS hD hJ turn hRR
  refine wpAny_newObj_type (wpAny_newFunctionEnv hcell (by intro y hy; simp at hy) (fun hA nsA sbA => ?_) hkind)
  dsimp only at nsA sbA ⊢
  have hlt : ∀ b o, s.heap.get? b = some o → b < s.heap.objs.size := fun b o e => Heap.lt_size e
  generalize eB : s.heap.push { cls := .type "list", dict := none, data := .seq ([] : List Value).toArray } = HB at nsA sbA ⊢
  have sB : HB.objs.size = s.heap.objs.size + 1 := by rw [← eB, Heap.size_push]
  have fresh : ∀ a, s.heap.objs.size ≤ a → h₀.get? a = none := fun a ha => by
    cases e : h₀.get? a with
    | none => rfl
    | some o => exact absurd (Heap.lt_size (F.keep a o e)) (Nat.not_lt.mpr ha)
  have nD : h₀.get? s.heap.objs.size = none := fresh _ (Nat.le_refl _)
  have nC : h₀.get? HB.objs.size = none := fresh _ (by rw [sB]; exact Nat.le_succ _)
  have apart : ∀ b, b < s.heap.objs.size → b ≠ HB.objs.size ∧ b ≠ s.heap.objs.size := fun b hb => ⟨by rw [sB]; exact Nat.ne_of_lt (Nat.lt_succ_of_lt hb), Nat.ne_of_lt hb⟩
  have dc : s.heap.objs.size ≠ HB.objs.size := by rw [sB]; exact Nat.ne_of_lt (Nat.lt_succ_self _)
  have ups : ∀ b o, s.heap.get? b = some o → hA.get? b = some o := fun b o e => sbA.extBut b o (apart b (hlt b o e)).1 (Heap.get?_push_of_some _ (eB ▸ Heap.get?_push_of_some _ e))
  have hacc : hA.get? s.heap.objs.size = some (LCg.lst []) := sbA.extBut _ _ dc (Heap.get?_push_of_some _ (eB ▸ Heap.get?_push_size _ rfl))
  have hIf : I ∈ fp := W.sub I (List.mem_singleton.mpr rfl)
  have offD : s.heap.objs.size ∉ fp := fun hm => Nat.lt_irrefl _ (hfp _ hm)
  have offC : HB.objs.size ∉ fp := fun hm => by have := hfp _ hm; rw [sB] at this; exact Nat.lt_irrefl _ (Nat.lt_of_succ_lt this)
  have iC := (apart I (hfp I hIf)).1
  have iD := (apart I (hfp I hIf)).2
  have lC := (apart L F.ns.lt).1
  have lD := (apart L F.ns.lt).2
  have hst1 : St 0 hA := W.frame _ _ _ hst fun b _ o e => ups b o e
  have loop : ∀ s₃ : Shared, s₃ = { s with heap := hA, toks := s.toks + ([] : List (Str × Value)).length } →
      codeAny (model prog w) A (.compLoop (.ListComp elt [⟨.Tuple [.Name xa pa, .Name xb pb] kt pt, iter, [], 0⟩] scope pos) 0 (.ref I) (.ref s.heap.objs.size) (compEnvC scope cl HB.objs.size env)) (RR (.ref s.heap.objs.size) HB.objs.size) s₃ := by
    rintro s₃ rfl
    refine codeAny_compLoop_T
      (fun k s' => ∃ h tk dr i ys m' led, s' = { s with heap := h, toks := tk, drawn := dr } ∧ Dr dr ∧ i ≤ n ∧ k = n + 1 - i ∧ ys.length = i ∧ St i h ∧ Fr h₀ L h m ∧ h.Ns HB.objs.size m' ∧ News h₀ L h ((s.heap.objs.size, LCg.lst ys) :: led) ∧
        LCg.Off3 I HB.objs.size s.heap.objs.size led ∧ S led ∧ J i ys led) ?_ (n + 1)
      ⟨hA, _, s.drawn, 0, [], _, led0, rfl, hD, Nat.zero_le _, rfl, rfl, hst1, F.keeps ups, nsA, fun p hp => ?_, LCg.Off3.of fun p hp => ⟨off p hp, apart _ (hlt _ _ (N p hp).1)⟩, hS, hJ⟩
    · intro k s' hI_
      refine ex_7 hI_ ?_; clear hI_; intro h tk dr i ys m' led hI_
      refine and_12 hI_ ?_; clear hI_; intro hs1_ hd hi hs2_ hyl hst' F' ns' N' off' hS' hJ'
      subst hs1_
      subst hs2_
      have off3 := off'.mem
      by_cases hlt' : i < n
      · refine W.item i _ _ _ hlt' hst' fun v h2 tk2 hP hst2 k2 => ?_
        k_extra "g"
        obtain ⟨T, va, vb, kT, rfl, hTm⟩ := hTup _ _ _ _ hP hS' hJ'
        k_extra "h"
        have N2 : News h₀ L h2 ((s.heap.objs.size, LCg.lst ys) :: led) := LCg.news_but N' k2 fun p hp => by
          k_extra "g"
          rcases List.mem_cons.mp hp with rfl | hp <;> k_extra "h"
          · exact Ne.symm iD
          · exact (off3 p hp).1
        refine wpAny_letOwnedTupleGo_listiter (hLI _ _ hst2) ?_
        have hTt : h2.IsTuple T #[va, vb] := ⟨_, (N2 _ (.tail _ hTm)).1, rfl, kT, rfl⟩
        refine wpAny_assign_Tuple hh hTt rfl rfl (fun hZ extZ => ?_)
        have upZ : ∀ b o, h2.get? b = some o → hZ.get? b = some o := fun b o e => extZ b o (Nat.ne_of_lt (Heap.lt_size e)) e
        have ns2 : hZ.Ns HB.objs.size m' := (ns'.at' fun o e => k2 _ o (by simpa using Ne.symm iC) e).keeps upZ
        refine wpAny_bind (wpAny_holding (wpAny_assign_Name (wpAny_storeName_local (lookup_relabel_local hxa) ns2 (fun hY nsY sbY => ?_) (by simp [compEnvC, relabel, hkind]))))
        refine wpAny_bind (wpAny_holding (wpAny_assign_Name (wpAny_storeName_local (lookup_relabel_local hxb) nsY (fun h3 ns3 sbX => ?_) (by simp [compEnvC, relabel, hkind]))))
        refine wpAny_pure (wpAny_tests_nil ?_)
        simp only [if_true]
        have sb3 : ∀ b o, b ≠ HB.objs.size → h2.get? b = some o → h3.get? b = some o := fun b o hb e => sbX.extBut b o hb (sbY.extBut b o hb (upZ b o e))
        have hst3 : St (i + 1) h3 := W.frame _ _ _ hst2 fun b hb o e => sb3 b o (fun q => offC (by have q' : b = HB.objs.size := q; rw [← q']; exact hb)) e
        k_extra "g"
        obtain ⟨oI, eI⟩ := hIo _ _ hst3
        obtain ⟨oC, eC, hoC⟩ := LCg.ns_obj ns3
        k_extra "h"
        have F3 : Fr h₀ L h3 m := (((LCg.fr_but F' k2 hIL hI₀).keeps upZ).change sbY (Ne.symm lC) nC).change sbX (Ne.symm lC) nC
        have N3 : News h₀ L h3 ((I, oI) :: (HB.objs.size, oC) :: (s.heap.objs.size, LCg.lst ys) :: led) := fun p hp => by
          k_extra "g"
          rcases List.mem_cons.mp hp with rfl | hp <;> k_extra "h"
          · exact ⟨eI, Ne.symm hIL, hI₀⟩
          · rcases List.mem_cons.mp hp with rfl | hp
            · exact ⟨eC, Ne.symm lC, nC⟩
            · have z := N2 p hp
              refine ⟨sb3 _ _ ?_ z.1, z.2⟩
              k_extra "g"
              rcases List.mem_cons.mp hp with rfl | hp <;> k_extra "h"
              · exact dc
              · exact (off3 p hp).2.1
        refine wpAny_mono (turn i _ T va vb kT ys led oI _ oC _ _ h3 _ dr _ hP rfl hTm hlt' hd hyl hoC (by simp [hab]) (by simp) F3 N3 off' ⟨iC, iD, Ne.symm dc⟩ ⟨hfp I hIf, by rw [sB]; exact Nat.lt_succ_self _⟩ hS' hJ') (fun y s4 q => ?_) fun _ _ e => e
        k_extra "g"
        refine ex_4 q ?_; clear q; intro h4 tk4 dr4 led4 q
        refine and_7 q ?_; clear q; intro hs1_ hd4 F4 N4 off4 hS4 hJ4
        subst hs1_
        k_extra "h"
        have zI := (N4 _ (.head _)).1
        have zC := (N4 _ (.tail _ (.head _))).1
        have zD := (N4 _ (mem_ix 2 rfl)).1
        have N5 : News h₀ L h4 led4 := fun p hp => N4 p (mem_dr 3 hp)
        have hst4 : St (i + 1) h4 := hSt _ _ _ _ _ hst3 eI zI F4.keep N5 hS4
        have o4 := off4.mem
        refine append_at (hsz := by rw [List.size_toArray, hyl, PySem.sizeLine_eq]; omega) zD fun h5 sb5 e5 => ?_
        refine ⟨n + 1 - (i + 1), by omega, exI_7 h5 tk4 dr4 (i + 1) (ys ++ [y]) _ led4 ⟨rfl, hd4, hlt', rfl, by rw [List.length_append, List.length_singleton, hyl], W.frame _ _ _ hst4 fun b hb o e => sb5.extBut b o (fun q => offD (by have q' : b = s.heap.objs.size := q; rw [← q']; exact hb)) e, F4.change sb5 (Ne.symm lD) nD, (hoC.ns zC).sameBut sb5 (Ne.symm dc), fun p hp => ?_, off4, hS4, hJ4⟩⟩
        k_extra "g"
        rcases List.mem_cons.mp hp with rfl | hp <;> k_extra "h"
        · exact ⟨e5.trans (congrArg some (LCg.lst_snoc ys y)), Ne.symm lD, nD⟩
        · exact ⟨sb5.extBut _ _ (o4 p hp).2.2 (N5 p hp).1, (N5 p hp).2⟩
      · obtain rfl : i = n := by omega
        refine W.done _ _ _ hst' fun h2 tk2 k2 => ?_
        refine hRR _ _ h2 tk2 dr _ ys led (fun p hp => hlt _ _ (N p hp).1) hd hyl (LCg.fr_but F' k2 hIL hI₀) (LCg.news_but N' k2 fun p hp => ?_) (fun p hp => (off3 p hp).2.2) (ns'.at' fun o e => k2 _ o (by simpa using Ne.symm iC) e) nC nD (Ne.symm lC) (Ne.symm lD) (Ne.symm dc) (fun p hp => (off3 p hp).2.1) hS' hJ'
        k_extra "g"
        rcases List.mem_cons.mp hp with rfl | hp <;> k_extra "h"
        · exact Ne.symm iD
        · exact (off3 p hp).1
    · rcases List.mem_cons.mp hp with rfl | hp
      · exact ⟨hacc, Ne.symm lD, nD⟩
      · exact ⟨ups _ _ (N p hp).1, (N p hp).2⟩
  exact codeAny_compStart_list (loop _ rfl) (W.self 0 _ _ _ hst1 (loop _ rfl))
end
end lc_blockT
theorem lc_blockT {elt iter : Expr} {xa xb : Str} {pa pb pt : Pos} {kt : Nat} {scope : Scope} {cl : List (Str × Addr)} {pos : Pos} {I ax : Addr} {fp : List Addr} {n : Nat} {P : Nat → Value → Prop} {St : Nat → Heap → Prop} {S : Led → Prop} {Dr : Drawn → Prop} {J : Nat → List Value → Led → Prop} {led0 : Led} {RR : Value → Addr → Result → Shared → Prop}
    (hh : A.handled = none) (hab : xa ≠ xb) (W : Walks prog w A I fp [I] n P St) (hLI : ∀ i h, St i h → h.IsListIter I ax i) (hTup : ∀ i v ys led, P i v → S led → J i ys led → ∃ T va vb k, v = .ref T ∧ (T, ({ cls := .type "tuple", data := .seq #[va, vb] k } : Obj)) ∈ led) (hsz : n ≤ 1000) (hIo : ∀ i h, St i h → ∃ o, h.get? I = some o)
    (hSt : ∀ i h h' o nw, St i h → h.get? I = some o → h'.get? I = some o → (∀ b o, h₀.get? b = some o → h'.get? b = some o) → News h₀ L h' nw → S nw → St i h')
    (hcell : ∀ y ∈ scope.names, y.2 ≠ .cell) (hkind : scope.kind = .function) (hxa : scope.names.lookup xa = some .local) (hxb : scope.names.lookup xb = some .local) (hst : St 0 s.heap) (hfp : ∀ b ∈ fp, b < s.heap.objs.size)
    (F : Fr h₀ L s.heap m) (N : News h₀ L s.heap led0) (hIL : L ≠ I) (hI₀ : h₀.get? I = none) (off : ∀ p ∈ led0, p.1 ≠ I) (hS : S led0) (hD : Dr s.drawn) (hJ : J 0 [] led0)
    (turn : ∀ i v T va vb k ys led oI C oC D m₂ h tk dr (E' : Value → Shared → Prop), P i v → v = .ref T → (T, ({ cls := .type "tuple", data := .seq #[va, vb] k } : Obj)) ∈ led → i < n → Dr dr → ys.length = i → LCg.NsObj oC m₂ → m₂ xa = some va → m₂ xb = some vb → Fr h₀ L h m → News h₀ L h ((I, oI) :: (C, oC) :: (D, LCg.lst ys) :: led) → LCg.Off3 I C D led → ((@Ne Nat I C) ∧ (@Ne Nat I D) ∧ (@Ne Nat C D)) → (@LT.lt Nat _ I D ∧ @LT.lt Nat _ D C) → S led → J i ys led →
      wpAny (model prog w) A (eval elt (compEnvC scope cl C env)) (LBack h₀ L m s Dr I oI C oC D (LCg.lst ys) S (fun y led' => J (i + 1) (ys ++ [y]) led')) E' { s with heap := h, toks := tk, drawn := dr })
    (hRR : ∀ D C h tk dr m' ys led, (∀ p ∈ led0, p.1 < D) → Dr dr → ys.length = n → Fr h₀ L h m → News h₀ L h ((D, LCg.lst ys) :: led) → (∀ p ∈ led, p.1 ≠ D) → h.Ns C m' → h₀.get? C = none → h₀.get? D = none → C ≠ L → D ≠ L → C ≠ D → (∀ p ∈ led, p.1 ≠ C) → S led → J n ys led → RR (.ref D) C (.ok .next) { s with heap := h, toks := tk, drawn := dr }) :
    wpAny (model prog w) A (newList []) (fun acc s₃ => wpAny (model prog w) A (newFunctionEnv scope env.globals cl [] env.qual none .none (some env)) (fun cenv s₄ =>
      codeAny (model prog w) A (.compStart (.ListComp elt [⟨.Tuple [.Name xa pa, .Name xb pb] kt pt, iter, [], 0⟩] scope pos) 0 (.ref I) acc { cenv with scope := relabel scope env }) (RR acc cenv.locals) s₄) E s₃) E s := ((lc_blockT.spec9 lc_blockT.core9 (((((prog, w), (A, E)), ((s, h₀), (L, m))), (((env, elt), (iter, xa)), ((xb, pa), pb))), ((((pt, kt), (cl, pos)), ((I, ax), fp)), (((n, P), (St, S)), ((Dr, J), led0)))) : lc_blockT.Claim9 prog w A E s h₀ L m env elt iter xa xb pa pb pt kt cl pos I ax fp n P St S Dr J led0)) scope RR hh hab W hLI hTup hsz hIo hSt hcell hkind hxa hxb hst hfp F N hIL hI₀ off hS hD hJ turn hRR
end
end
end
section
section
variable (prog : Program) (w : World) (loose : List Str) (mean : ExcName → Option Value) (mg mb : Str → Option Value)
section
variable {prog : Program} {w : World} {A : Around} {E : Value → Shared → Prop} {s : Shared} {h₀ : Heap} {L : Addr} {m : Str → Option Value} {env : Env}
def LcAtT (prog : Program) (w : World) (A : Around) (E : Value → Shared → Prop) (env : Env) (cl : List (Str × Addr)) (elt iter : PySem.Expr) (xa xb : Str) (pa pb pt : Pos) (kt : Nat) (scope : Scope) (pos : Pos) (use : Option (Value → Sem Unit)) (Q : Value → Shared → Prop) (it : Value) (s₂ : Shared) : Prop :=
  wpAny (model prog w) A (newList []) (fun acc s₃ => wpAny (model prog w) A (newFunctionEnv scope env.globals cl [] env.qual none .none (some env)) (fun cenv s₄ =>
      codeAny (model prog w) A (.compStart (.ListComp elt [⟨.Tuple [.Name xa pa, .Name xb pb] kt pt, iter, [], 0⟩] scope pos) 0 it acc { cenv with scope := relabel scope env }) (compPost (model prog w) A E use Q acc cenv.locals) s₄) E s₃) E s₂
theorem lc_evalT {elt iter : PySem.Expr} {xa xb : Str} {pa pb pt : Pos} {kt : Nat} {pos : Pos} {scope : Scope} {cl : List (Str × Addr)} {Q : Value → Shared → Prop}
    (hclos : closureFor scope env = pure cl) (hkind : scope.kind = .function) (hnames : ∀ y ∈ scope.names, y.2 = .local → scope.names.lookup y.1 = some .local)
    (h : wpAny (model prog w) A (eval iter env) (fun xv s₁ => wpAny (model prog w) A (pyIter xv) (LcAtT prog w A E env cl elt iter xa xb pa pb pt kt scope pos none Q) E s₁) E s)
    (hs : ∀ x, foldedSetIterable iter env x = pure x := by intro _; rfl) :
    wpAny (model prog w) A (eval (.ListComp elt [⟨.Tuple [.Name xa pa, .Name xb pb] kt pt, iter, [], 0⟩] scope pos) env) Q E s := by
  rw [eval_ListComp]
  exact wpAny_comprehension_free (use := none) rfl hs hclos hkind hnames h
section
variable {elt iter : PySem.Expr} {xa xb : Str} {pa pb pt : Pos} {kt : Nat} {pos : Pos} {scope : Scope} {cl : List (Str × Addr)} {Q : Value → Shared → Prop} {Dr : Drawn → Prop} {led0 : Led}
theorem lc_anyT {I ax : Addr} {fp : List Addr} {n : Nat} {P : Nat → Value → Prop} {St : Nat → Heap → Prop} {S : Led → Prop} {J : Nat → List Value → Led → Prop}
    (hh : A.handled = none) (hab : xa ≠ xb) (W : Walks prog w A I fp [I] n P St) (hLI : ∀ i h, St i h → h.IsListIter I ax i) (hTup : ∀ i v ys led, P i v → S led → J i ys led → ∃ T va vb k, v = .ref T ∧ (T, ({ cls := .type "tuple", data := .seq #[va, vb] k } : Obj)) ∈ led) (hsz : n ≤ 1000) (hIo : ∀ i h, St i h → ∃ o, h.get? I = some o)
    (hSt : ∀ i h h' o nw, St i h → h.get? I = some o → h'.get? I = some o → (∀ b o, h₀.get? b = some o → h'.get? b = some o) → News h₀ L h' nw → S nw → St i h')
    (hcell : ∀ y ∈ scope.names, y.2 ≠ .cell) (hkind : scope.kind = .function) (hxa : scope.names.lookup xa = some .local) (hxb : scope.names.lookup xb = some .local) (hst : St 0 s.heap) (hfp : ∀ b ∈ fp, b < s.heap.objs.size)
    (F : Fr h₀ L s.heap m) (N : News h₀ L s.heap led0) (hIL : L ≠ I) (hI₀ : h₀.get? I = none) (off : ∀ p ∈ led0, p.1 ≠ I) (hS : S led0) (hD : Dr s.drawn) (hJ : J 0 [] led0)
    (turn : ∀ i v T va vb k ys led oI C oC D m₂ h tk dr (E' : Value → Shared → Prop), P i v → v = .ref T → (T, ({ cls := .type "tuple", data := .seq #[va, vb] k } : Obj)) ∈ led → i < n → Dr dr → ys.length = i → LCg.NsObj oC m₂ → m₂ xa = some va → m₂ xb = some vb → Fr h₀ L h m → News h₀ L h ((I, oI) :: (C, oC) :: (D, LCg.lst ys) :: led) → LCg.Off3 I C D led → ((@Ne Nat I C) ∧ (@Ne Nat I D) ∧ (@Ne Nat C D)) → (@LT.lt Nat _ I D ∧ @LT.lt Nat _ D C) → S led → J i ys led →
      wpAny (model prog w) A (eval elt (compEnvC scope cl C env)) (LBack h₀ L m s Dr I oI C oC D (LCg.lst ys) S (fun y led' => J (i + 1) (ys ++ [y]) led')) E' { s with heap := h, toks := tk, drawn := dr })
    (fin : ∀ D h tk dr ys led, (∀ p ∈ led0, p.1 < D) → Dr dr → ys.length = n → Fr h₀ L h m → News h₀ L h ((D, LCg.lst ys) :: led) → AllNe D led → S led → J n ys led → Q (.ref D) { s with heap := h, toks := tk, drawn := dr }) :
    LcAtT prog w A E env cl elt iter xa xb pa pb pt kt scope pos none Q (.ref I) s := by
  refine lc_blockT hh hab W hLI hTup hsz hIo hSt hcell hkind hxa hxb hst hfp F N hIL hI₀ off hS hD hJ turn ?_
  intro D C h tk dr m' ys led hbl hd hyl F' N' o1 ns nC nD cl' dl cd oC hS' hJ'
  refine ⟨m', ns, fun h' sb => fin D h' tk dr ys led hbl hd hyl (F'.change sb cl' nC) (fun p hp => ?_) (allNe_of o1) hS' hJ'⟩
  refine ⟨sb.extBut _ _ ?_ (N' p hp).1, (N' p hp).2⟩
  k_extra "g"
  rcases List.mem_cons.mp hp with rfl | hp <;> k_extra "h"
  · exact Ne.symm cd
  · exact oC p hp
theorem lc_listT {vs : List Value} {ax c : Nat} (J : Nat → List Value → Led → Prop) (hh : A.handled = none) (hcell : ∀ y ∈ scope.names, y.2 ≠ .cell) (hkind : scope.kind = .function) (hxa : scope.names.lookup xa = some .local) (hxb : scope.names.lookup xb = some .local) (hab : xa ≠ xb)
    (F : Fr h₀ L s.heap m) (N : News h₀ L s.heap led0) (hl : (ax, W.listOf vs.toArray c) ∈ led0) (hn : vs.length ≤ 60) (hD : Dr s.drawn) (hJ : J 0 [] led0)
    (hTup : ∀ i v ys led, vs[i]? = some v → J i ys led → ∃ T va vb k, v = .ref T ∧ (T, ({ cls := .type "tuple", data := .seq #[va, vb] k } : Obj)) ∈ led)
    (turn : ∀ i v T va vb k ys led I oI C oC D m₂ h tk dr (E' : Value → Shared → Prop), vs[i]? = some v → v = .ref T → (T, ({ cls := .type "tuple", data := .seq #[va, vb] k } : Obj)) ∈ led → i < vs.length → Dr dr → ys.length = i → LCg.NsObj oC m₂ → m₂ xa = some va → m₂ xb = some vb → Fr h₀ L h m → News h₀ L h ((I, oI) :: (C, oC) :: (D, LCg.lst ys) :: led) → LCg.Off3 I C D led → ((@Ne Nat I C) ∧ (@Ne Nat I D) ∧ (@Ne Nat C D)) → (@LT.lt Nat _ I D ∧ @LT.lt Nat _ D C) → (∀ p ∈ led0, p.1 < I) → (∃ c, (ax, W.listOf vs.toArray c) ∈ led) → J i ys led →
      wpAny (model prog w) A (eval elt (compEnvC scope cl C env)) (LBack h₀ L m s Dr I oI C oC D (LCg.lst ys) (fun led => ∃ c, (ax, W.listOf vs.toArray c) ∈ led) (fun y led' => J (i + 1) (ys ++ [y]) led')) E' { s with heap := h, toks := tk, drawn := dr })
    (fin : ∀ D h tk dr ys led, (∀ p ∈ led0, p.1 < D) → Dr dr → ys.length = vs.length → Fr h₀ L h m → News h₀ L h ((D, LCg.lst ys) :: led) → AllNe D led → (∃ c, (ax, W.listOf vs.toArray c) ∈ led) → J vs.length ys led → Q (.ref D) { s with heap := h, toks := tk, drawn := dr }) :
    wpAny (model prog w) A (pyIter (.ref ax)) (LcAtT prog w A E env cl elt iter xa xb pa pb pt kt scope pos none Q) E s := by
  have hl' : s.heap.IsList ax vs.toArray := ⟨_, (N _ hl).1, rfl, _, rfl⟩
  have hlt : ax < s.heap.objs.size := Heap.lt_size (N _ hl).1
  refine wpAny_pyIter_list hl' ?_
  have up : ∀ b o, s.heap.get? b = some o → (s.heap.push { cls := .type "list_iterator", data := .fields #[.ref ax, .int 0 0] }).get? b = some o := fun b o e => Heap.get?_push_of_some _ e
  refine lc_anyT (S := fun led => ∃ c, (ax, W.listOf vs.toArray c) ∈ led) (J := J) (n := vs.length) hh hab (Walks.list hh s.heap.objs.size ax (Nat.ne_of_lt hlt) vs.toArray) (fun i h st => st.1) (fun i v ys led hP _ hJ => hTup i v ys led (by simpa using hP) hJ) (by omega) (fun i h st => by obtain ⟨o, e, _⟩ := st.1; exact ⟨o, e⟩) list_st' hcell hkind hxa hxb
    ⟨⟨_, Heap.get?_push_size _ rfl, rfl, rfl⟩, hl'.push _⟩ (fun b hb => ?_) (F.keeps up) (N.grown up) (Nat.ne_of_lt F.ns.lt) (next_is_new F) (fun p hp => Nat.ne_of_lt (Heap.lt_size (N p hp).1)) ⟨_, hl⟩ hD hJ (fun i v T va vb k ys led oI C oC D m₂ h tk dr E' hP e1 e2 q1 q2 q3 q4 q5 q5' q6 q7 q8 q9 q10 q11 q12 => turn i v T va vb k ys led _ oI C oC D m₂ h tk dr E' (by simpa using hP) e1 e2 q1 q2 q3 q4 q5 q5' q6 q7 q8 q9 q10 (fun p hp => Heap.lt_size (N p hp).1) q11 q12) fin
  show b < (s.heap.push _).objs.size
  rw [Heap.size_push]
  k_extra "g"
  rcases List.mem_cons.mp hb with rfl | hb <;> k_extra "h"
  · exact Nat.lt_succ_self _
  · rw [List.mem_singleton.mp hb]; exact Nat.lt_succ_of_lt hlt
end
end
end
end
section
open L_P L_T2 L_L L_U2 L_X L_Y L_N
section
variable (prog : Program) (w : World) (loose : List Str) (mean : ExcName → Option Value) (mg mb : Str → Option Value)
theorem paired_get {α β : Type} {R : α → β → Prop} {as : List α} {bs : List β} (h : PySem.Paired R as bs) : ∀ (i : Nat) (a : α), as[i]? = some a → ∃ b, bs[i]? = some b ∧ R a b := by
  induction h with
  | nil => intro i a h; simp at h
  | cons q r ih =>
    intro i a h
    cases i with
    | zero => exact ⟨_, rfl, by simpa using (Option.some.inj h) ▸ q⟩
    | succ i => simpa using ih i a (by simpa using h)
theorem range_le (n : Nat) : (rangeKs 0 n).Pairwise (fun x y => x ≤ y) := by
  unfold rangeKs
  rw [List.pairwise_map]
  exact List.Pairwise.imp (fun h => by omega) List.pairwise_lt_range
namespace seg11
noncomputable section
def Claim9 (prog : Program) (w : World) (loose : List Str) (mean : ExcName → Option Value) (mg mb : Str → Option Value) (rest : List Stmt) (fa L SP RW : Addr) (cd : Value) (g : Heap) (s : Shared) (m : Str → Option Value) (Q : Flow → Shared → Prop) (E : Value → Shared → Prop) (o2 : Obj) (fz : Led) (pc nr : Nat) (pp uu pr : Int) (pv rv : List Value) (ps : List Int) : Prop := ∀ qual scope body st (H : LawAt w qual scope body) (hst : body[11]? = some st) (B : Below callerA g [] g) (F : Fr g L s.heap m) (X : (kf.heap_1 w.params).In g) (T : Top topProg loose mean mg mb g) (N : News g L s.heap ((SP, W.listOf pv.toArray pc) :: (L + 1 + 1, o2) :: fz)) (hm : m (Str.ofString "rows") = some (.ref RW)) (hRW : (RW, W.listOf rv.toArray nr) ∈ fz) (hrv : PySem.Paired (fun y b => RowAt fz ps uu pp (pr * b) y) rv [1, -1, uu]) (d2 : o2.data = .cell (some (.ref SP))) (hpI : IntsAre pv ps) (hpl : 1 ≤ ps.length ∧ ps.length ≤ 6) (hperm : ∀ kl : List Int, PySem.Paired (fun (k : Int) v => ∃ kn jn : Nat, k = (kn : Int) ∧ At ps uu pp ((pr * 1 * v).fmod pp) kn jn) kl ps → kl.Perm (rangeKs 0 ps.length)) (ret : ∀ h' tk', Fr g L h' m → News g L h' ((SP, W.listOf pv.toArray pc) :: (L + 1 + 1, o2) :: fz) →
      wpAny (model prog w) (callerA.deeper (envOfC qual scope L fa cd)) (execs rest (envOfC qual scope L fa cd)) Q E { s with heap := h', toks := tk' }), wpAny (model prog w) (callerA.deeper (envOfC qual scope L fa cd)) (execs (st :: rest) (envOfC qual scope L fa cd)) Q E s
abbrev T9 : Type := (((((Program × World) × ((List Str) × (ExcName → Option Value))) × (((Str → Option Value) × (Str → Option Value)) × (List Stmt))) × (((Addr × Addr) × (Addr × Addr)) × ((Value × Heap) × Shared))) × (((((Str → Option Value) × (Flow → Shared → Prop)) × ((Value → Shared → Prop) × Obj)) × ((Led × Nat) × Nat)) × (((Int × Int) × Int) × (((List Value) × (List Value)) × (List Int)))))
def U9 (t : T9) : Prop := Claim9 t.1.1.1.1.1 t.1.1.1.1.2 t.1.1.1.2.1 t.1.1.1.2.2 t.1.1.2.1.1 t.1.1.2.1.2 t.1.1.2.2 t.1.2.1.1.1 t.1.2.1.1.2 t.1.2.1.2.1 t.1.2.1.2.2 t.1.2.2.1.1 t.1.2.2.1.2 t.1.2.2.2 t.2.1.1.1.1 t.2.1.1.1.2 t.2.1.1.2.1 t.2.1.1.2.2 t.2.1.2.1.1 t.2.1.2.1.2 t.2.1.2.2 t.2.2.1.1.1 t.2.2.1.1.2 t.2.2.1.2 t.2.2.2.1.1 t.2.2.2.1.2 t.2.2.2.2
@[irreducible] def v9 : T9 := ch9 (by k_extra "NE") U9
theorem spec9 : U9 v9 → ∀ t, U9 t := by with_unfolding_all exact sp9 _ U9
theorem core9 : U9 v9 := by
  refine (let prog := v9.1.1.1.1.1; let w := v9.1.1.1.1.2; let loose := v9.1.1.1.2.1; let mean := v9.1.1.1.2.2; let mg := v9.1.1.2.1.1; let mb := v9.1.1.2.1.2; let rest := v9.1.1.2.2; let fa := v9.1.2.1.1.1; let L := v9.1.2.1.1.2; let SP := v9.1.2.1.2.1; let RW := v9.1.2.1.2.2; let cd := v9.1.2.2.1.1; let g := v9.1.2.2.1.2; let s := v9.1.2.2.2; let m := v9.2.1.1.1.1; let Q := v9.2.1.1.1.2; let E := v9.2.1.1.2.1; let o2 := v9.2.1.1.2.2; let fz := v9.2.1.2.1.1; let pc := v9.2.1.2.1.2; let nr := v9.2.1.2.2; let pp := v9.2.2.1.1.1; let uu := v9.2.2.1.1.2; let pr := v9.2.2.1.2; let pv := v9.2.2.2.1.1; let rv := v9.2.2.2.1.2; let ps := v9.2.2.2.2; (?_ : Claim9 prog w loose mean mg mb rest fa L SP RW cd g s m Q E o2 fz pc nr pp uu pr pv rv ps))
  clear_value prog w loose mean mg mb rest fa L SP RW cd g s m Q E o2 fz pc nr pp uu pr pv rv ps
  intro qual scope body st H hst B F X T N hm hRW hrv d2 hpI hpl hperm ret
  generalize hε : envOfC qual scope L fa cd = ε at ret ⊢
  k_extra "g"
  obtain ⟨h1, h2, h3⟩ := law_lit H
  rw [h1, h2] at hε
  rw [h3] at hst
  clear h1 h2 h3 H
  dsimp only [lawR] at hε hst
  obtain rfl := Option.some.inj hst
  clear hst
  subst hε
  have hvl := hpI.length
  have F1 := fr_know F hm
  clear F
  obtain ⟨y0, y1, y2, hrvE, hy0, _, _⟩ := paired3 hrv
  subst hrvE
  refine ex_3 hy0 fun R0 zs nz k_ => and_3 k_ fun r1_ hR0 hzs => ?_
  clear k_ hy0
  subst r1_
  k_extra "h"
  have hzl := hzs.length
  (try dsimp only)
  repeat' (first | ((fail_if_success (with_reducible show wpAny _ _ (subscriptTail _ _ _ _) _ _ _)); k_extra "STEP1"))
  k_dflt (refine' get_A (l := RW) (vs := [.ref R0, y1, y2]) (k := 0) (v := .ref R0) N (mem_dr 2 hRW) rfl (by decide) rfl ?_ (by with_unfolding_all rfl))
  have hR0m : (R0, W.listOf zs.toArray nz) ∈ (SP, W.listOf pv.toArray pc) :: (L + 1 + 1, o2) :: fz := mem_dr 2 hR0
  refine lc_listT (vs := zs) (ax := R0) (c := nz) (Dr := fun d => d = s.drawn) (fun i ys led => led = (SP, W.listOf pv.toArray pc) :: (L + 1 + 1, o2) :: fz ∧ ∃ kl, IntsAre ys kl ∧ PySem.Paired (fun (k : Int) v => ∃ kn jn : Nat, k = (kn : Int) ∧ At ps uu pp ((pr * 1 * v).fmod pp) kn jn) kl (ps.take i)) ?hh ?hcell ?hkind ?hxa ?hxb ?hab F1 N hR0m ?hn ?hD ?hJ ?hTup ?turn ?fin
  case hh => rfl
  case hcell => decide
  case hkind => rfl
  case hxa => rfl
  case hxb => rfl
  case hab => decide
  case hn => omega
  case hD => rfl
  case hJ => exact ⟨rfl, [], .nil, .nil⟩
  case hTup =>
    intro i v ys led hv hJ
    k_extra "g"
    obtain ⟨rfl, _⟩ := hJ
    refine ex_1 (paired_get hzs i v hv) fun y k_ => and_2 k_ fun hy k_ => ex_5 k_ fun T t1 t2 k j k_ => and_3 k_ fun r1_ hm _ => ?_
    repeat clear k_
    subst r1_
    k_extra "h"
    exact ⟨T, _, _, _, rfl, mem_dr 2 hm⟩
  case turn =>
    intro i v T va vb k ys led I oI C oC D m₂ h tk dr E' hv hvT hTm hi hdr hyl hC hxa hxb F2 N2 off hne hlt hIl hS hJ
    k_extra "g"
    obtain ⟨rfl, kl, hys, hkl⟩ := hJ
    subst hdr hvT
    clear hS
    refine ex_1 (paired_get hzs i _ hv) fun y k_ => and_2 k_ fun hy k_ => ex_5 k_ fun T' t1 t2 kn jn k_ => and_3 k_ fun e hm2 hAt => ?_
    repeat clear k_
    k_extra "h"
    cases e
    have g1 := (N2 _ (mem_dr 3 hTm)).1
    have g2 := (N2 _ (mem_dr 5 hm2)).1
    have g3 := Option.some.inj (g1.symm.trans g2)
    have hva : va = .int ((kn : Nat) : Int) t1 := by
      have := congrArg Obj.data g3
      simp only [tup2] at this
      injection this with a1 a2
      injection a1 with a3
      injection a3
    subst hva
    clear g1 g2 g3 hne hlt hIl
    (first | (refine opq_turn ?_; intro QT9 hT9) | (refine opq_V ?_; intro QT9 hT9))
    k_extra "STEPSD"
    rename News g L _ _ => NB
    (repeat walk_at "LEAVE9")
    exact exI_4 _ _ _ _ ⟨rfl, rfl, F2, NB, off, ⟨nz, mem_dr 2 hR0⟩, rfl, kl ++ [(kn : Int)], ints_app hys, paired_snoc_take hkl hy ⟨kn, jn, rfl, hAt⟩⟩
  case fin =>
    intro D h tk dr ys led hbl hdr hyl F2 N2 hne hS hJ
    k_extra "g"
    obtain ⟨rfl, kl, hys, hkl⟩ := hJ
    k_extra "h"
    subst hdr
    clear hS
    have hkl2 := hys.length
    rw [List.take_of_length_le (by omega)] at hkl
    repeat' (first | ((fail_if_success (with_reducible show wpAny _ _ (call (Value.builtin "sorted") _) _ _ _)); k_extra "STEP1"))
    k_extra "STEPSD"
    · (try dsimp only)
      rename News g L _ _ => NB
      rename Fr g L _ _ => FB
      (repeat walk_at "LEAVE9")
      refine ret _ _ (fr_unknow FB hm) ?nn
      case nn => k_extra "NWS"
    · exfalso
      rename (¬ _ = _) => hq
      rename List.Perm _ kl => hpm
      rename List.Pairwise _ _ => hpw
      apply hq
      rw [show ((pv.length : Int) - 0).toNat = ps.length from by omega]
      exact List.Perm.eq_of_pairwise (fun x y _ _ h1 h2 => Int.le_antisymm h1 h2) hpw (range_le _) (hpm.trans (hperm kl hkl))
end
end seg11
theorem seg11 {qual scope body st} (H : LawAt w qual scope body) (hst : body[11]? = some st) {rest : List Stmt} {fa L SP RW : Addr} {cd : Value} {g : Heap} {s : Shared} {m : Str → Option Value} {Q : Flow → Shared → Prop} {E : Value → Shared → Prop} {o2 : Obj} {fz : Led} {pc nr : Nat} {pp uu pr : Int} {pv rv : List Value} {ps : List Int}
    (B : Below callerA g [] g) (F : Fr g L s.heap m) (X : (kf.heap_1 w.params).In g) (T : Top topProg loose mean mg mb g)
    (N : News g L s.heap ((SP, W.listOf pv.toArray pc) :: (L + 1 + 1, o2) :: fz))
    (hm : m (Str.ofString "rows") = some (.ref RW)) (hRW : (RW, W.listOf rv.toArray nr) ∈ fz) (hrv : PySem.Paired (fun y b => RowAt fz ps uu pp (pr * b) y) rv [1, -1, uu]) (d2 : o2.data = .cell (some (.ref SP)))
    (hpI : IntsAre pv ps) (hpl : 1 ≤ ps.length ∧ ps.length ≤ 6)
    (hperm : ∀ kl : List Int, PySem.Paired (fun (k : Int) v => ∃ kn jn : Nat, k = (kn : Int) ∧ At ps uu pp ((pr * 1 * v).fmod pp) kn jn) kl ps → kl.Perm (rangeKs 0 ps.length))
    (ret : ∀ h' tk', Fr g L h' m → News g L h' ((SP, W.listOf pv.toArray pc) :: (L + 1 + 1, o2) :: fz) →
      wpAny (model prog w) (callerA.deeper (envOfC qual scope L fa cd)) (execs rest (envOfC qual scope L fa cd)) Q E { s with heap := h', toks := tk' }) :
    wpAny (model prog w) (callerA.deeper (envOfC qual scope L fa cd)) (execs (st :: rest) (envOfC qual scope L fa cd)) Q E s := ((seg11.spec9 seg11.core9 (((((prog, w), (loose, mean)), ((mg, mb), rest)), (((fa, L), (SP, RW)), ((cd, g), s))), ((((m, Q), (E, o2)), ((fz, pc), nr)), (((pp, uu), pr), ((pv, rv), ps)))) : seg11.Claim9 prog w loose mean mg mb rest fa L SP RW cd g s m Q E o2 fz pc nr pp uu pr pv rv ps)) qual scope body st H hst B F X T N hm hRW hrv d2 hpI hpl hperm ret
end
end
section
section
variable (prog : Program) (w : World) (loose : List Str) (mean : ExcName → Option Value) (mg mb : Str → Option Value)
theorem kt_canLayAll0 : ∀ ns : List Str, (∀ x ∈ ns, PyData.strOk x = true) → PyData.canLayAll0 (ns.map PyData.str) = true
  | [], _ => rfl
  | a :: r, h => by simp [PyData.canLayAll0, PyData.canLay0, kt_canLayAll0 r fun x hx => h x (.tail _ hx), h a (.head _)]
theorem kt_depthAll : ∀ ns : List Str, PyData.depthAll (ns.map PyData.str) = 0
  | [] => rfl
  | _ :: r => by simp [PyData.depthAll, PyData.depth, kt_depthAll r]
theorem kt_shaped (ns : List Str) (h : ∀ x ∈ ns, PyData.strOk x = true) : SeqAt.shaped (.list (ns.map PyData.str)) = true := by
  simp [SeqAt.shaped, PyData.canLay0, PyData.depth, kt_canLayAll0 ns h, kt_depthAll]
theorem kt_sameAll : ∀ ns : List Str, PySem.Spec.sameAll (ns.map PyData.str) (ns.map PyData.str) = true
  | [] => by simp [PySem.Spec.sameAll]
  | a :: r => by
    simp only [List.map_cons, PySem.Spec.sameAll, PySem.Spec.same, kt_sameAll r]
    simp
theorem kt_carried : ∀ {vs : List Value} {ns : List Str}, StrsAre vs ns → CarriedAll vs (ns.map PyData.str)
  | _, _, .nil => .nil
  | _, _, .cons _ t r => .cons (.str _ t) (kt_carried r)
section
variable {prog : Program} {w : World} {A : Around} {E : Value → Shared → Prop} {s : Shared} {h₀ : Heap} {L a b : Addr} {xs ys : List Value} {ns : List Str} {news : Led} {n n2 : Nat} {Q : Value → Shared → Prop}
theorem ne_strs (N : News h₀ L s.heap news) (ha : (a, W.listOf xs.toArray n) ∈ news) (hb : (b, W.listOf ys.toArray n2) ∈ news) (hi : StrsAre xs ns) (hj : StrsAre ys ns) (hok : ∀ x ∈ ns, PyData.strOk x = true) (hu : A.units + 64 < cLine) (h : Q (.bool false) s) :
    wpAny (model prog w) A (compareOp .NotEq (.ref a) (.ref b)) Q E s :=
  ne_dataH_same (reads_newData ⟨_, (N _ ha).1, rfl, _, rfl⟩ (kt_carried hi)) (reads_newData ⟨_, (N _ hb).1, rfl, _, rfl⟩ (kt_carried hj)) (kt_shaped _ hok) (kt_shaped _ hok) hu (SeqAt.noMix_of_shape (.list .str) rfl _ _ (list_map_has fun _ => rfl) (list_map_has fun _ => rfl)) (by
    have e : PySem.Spec.same (.list (ns.map PyData.str)) (.list (ns.map PyData.str)) = true := by
      simp only [PySem.Spec.same]
      exact kt_sameAll ns
    rw [e]
    exact h)
end
end
end
section
open L_P L_R L_T2 L_L L_X L_Y L_N L_U2 L_Q
section
variable (prog : Program) (w : World) (loose : List Str) (mean : ExcName → Option Value) (mg mb : Str → Option Value)
theorem dig_ok {x : Str} (h : DigOk x) : PyData.strOk x = true := by
  cases h with
  | one a h => simp [PyData.strOk]; omega
  | two a b h h2 => simp [PyData.strOk]; omega
namespace seg12
noncomputable section
def Claim9 (prog : Program) (w : World) (loose : List Str) (mean : ExcName → Option Value) (mg mb : Str → Option Value) (rest : List Stmt) (fa L SP RW : Addr) (cd : Value) (g : Heap) (s : Shared) (m : Str → Option Value) (Q : Flow → Shared → Prop) (E : Value → Shared → Prop) (o2 o3 : Obj) (fz : Led) (pc nr n3 : Nat) (tl : Tok) (ln0 pp uu pr : Int) (pv rv pd : List Value) (ps ln : List Int) (K : Mach) : Prop := ∀ qual scope body st (H : LawAt w qual scope body) (hst : body[12]? = some st) (B : Below callerA g [] g) (F : Fr g L s.heap m) (X : (kf.heap_1 w.params).In g) (T : Top topProg loose mean mg mb g) (N : News g L s.heap ((K.P, W.listOf pd.toArray n3) :: (K.M, instObj 137 K.d) :: (K.d, K.dict ln0 tl) :: (SP, W.listOf pv.toArray pc) :: (L + 1 + 1 + 1, o3) :: (L + 1 + 1, o2) :: fz)) (hlt : @LT.lt Nat _ (L + 1 + 1 + 1) SP ∧ @LT.lt Nat _ SP K.cT) (hch : K.chain) (hP : AllNe K.P fz) (hm : m (Str.ofString "rows") = some (.ref RW)) (hRW : (RW, W.listOf rv.toArray nr) ∈ fz) (hrv : PySem.Paired (fun y b => RowAt fz ps uu pp (pr * b) y) rv [1, -1, uu]) (d2 : o2.data = .cell (some (.ref SP))) (d3 : o3.data = .cell (some (.ref K.M))) (hpI : IntsAre pv ps) (hpl : 1 ≤ ps.length ∧ ps.length ≤ 6) (hpr : ∀ y ∈ ps, 1 ≤ y ∧ y ≤ 36) (hpd : StrsAre pd (ln.map showI)) (hll : ln.length = ps.length) (hlr : ∀ y ∈ ln, 1 ≤ y ∧ y ≤ 36) (hline : ∀ kl : List Nat, PySem.Paired (fun k v => ∃ jn : Nat, At ps uu pp ((pr * 1 * v).fmod pp) k jn) kl ps → kl.map (fun k => ps.getD k 0) = ln) (ret : ∀ n3' h' tk', Fr g L h' m → News g L h' ((K.P, W.listOf #[] n3') :: (K.M, instObj 137 K.d) :: (K.d, K.dict ln0 tl) :: (SP, W.listOf pv.toArray pc) :: (L + 1 + 1 + 1, o3) :: (L + 1 + 1, o2) :: fz) →
      wpAny (model prog w) (callerA.deeper (envOfC qual scope L fa cd)) (execs rest (envOfC qual scope L fa cd)) Q E { s with heap := h', toks := tk' }), wpAny (model prog w) (callerA.deeper (envOfC qual scope L fa cd)) (execs (st :: rest) (envOfC qual scope L fa cd)) Q E s
abbrev T9 : Type := ((((((Program × World) × (List Str)) × ((ExcName → Option Value) × (Str → Option Value))) × (((Str → Option Value) × (List Stmt)) × (Addr × Addr))) × (((Addr × Addr) × (Value × Heap)) × ((Shared × (Str → Option Value)) × ((Flow → Shared → Prop) × (Value → Shared → Prop))))) × (((((Obj × Obj) × Led) × (Nat × Nat)) × ((Nat × Tok) × (Int × Int))) × (((Int × Int) × ((List Value) × (List Value))) × (((List Value) × (List Int)) × ((List Int) × Mach)))))
def U9 (t : T9) : Prop := Claim9 t.1.1.1.1.1.1 t.1.1.1.1.1.2 t.1.1.1.1.2 t.1.1.1.2.1 t.1.1.1.2.2 t.1.1.2.1.1 t.1.1.2.1.2 t.1.1.2.2.1 t.1.1.2.2.2 t.1.2.1.1.1 t.1.2.1.1.2 t.1.2.1.2.1 t.1.2.1.2.2 t.1.2.2.1.1 t.1.2.2.1.2 t.1.2.2.2.1 t.1.2.2.2.2 t.2.1.1.1.1.1 t.2.1.1.1.1.2 t.2.1.1.1.2 t.2.1.1.2.1 t.2.1.1.2.2 t.2.1.2.1.1 t.2.1.2.1.2 t.2.1.2.2.1 t.2.1.2.2.2 t.2.2.1.1.1 t.2.2.1.1.2 t.2.2.1.2.1 t.2.2.1.2.2 t.2.2.2.1.1 t.2.2.2.1.2 t.2.2.2.2.1 t.2.2.2.2.2
@[irreducible] def v9 : T9 := ch9 (by k_extra "NE") U9
theorem spec9 : U9 v9 → ∀ t, U9 t := by with_unfolding_all exact sp9 _ U9
theorem core9 : U9 v9 := by
  refine (let prog := v9.1.1.1.1.1.1; let w := v9.1.1.1.1.1.2; let loose := v9.1.1.1.1.2; let mean := v9.1.1.1.2.1; let mg := v9.1.1.1.2.2; let mb := v9.1.1.2.1.1; let rest := v9.1.1.2.1.2; let fa := v9.1.1.2.2.1; let L := v9.1.1.2.2.2; let SP := v9.1.2.1.1.1; let RW := v9.1.2.1.1.2; let cd := v9.1.2.1.2.1; let g := v9.1.2.1.2.2; let s := v9.1.2.2.1.1; let m := v9.1.2.2.1.2; let Q := v9.1.2.2.2.1; let E := v9.1.2.2.2.2; let o2 := v9.2.1.1.1.1.1; let o3 := v9.2.1.1.1.1.2; let fz := v9.2.1.1.1.2; let pc := v9.2.1.1.2.1; let nr := v9.2.1.1.2.2; let n3 := v9.2.1.2.1.1; let tl := v9.2.1.2.1.2; let ln0 := v9.2.1.2.2.1; let pp := v9.2.1.2.2.2; let uu := v9.2.2.1.1.1; let pr := v9.2.2.1.1.2; let pv := v9.2.2.1.2.1; let rv := v9.2.2.1.2.2; let pd := v9.2.2.2.1.1; let ps := v9.2.2.2.1.2; let ln := v9.2.2.2.2.1; let K := v9.2.2.2.2.2; (?_ : Claim9 prog w loose mean mg mb rest fa L SP RW cd g s m Q E o2 o3 fz pc nr n3 tl ln0 pp uu pr pv rv pd ps ln K))
  clear_value prog w loose mean mg mb rest fa L SP RW cd g s m Q E o2 o3 fz pc nr n3 tl ln0 pp uu pr pv rv pd ps ln K
  intro qual scope body st H hst B F X T N hlt hch hP hm hRW hrv d2 d3 hpI hpl hpr hpd hll hlr hline ret
  revert ret
  refine law_cc (ε := envOfC qual scope L fa cd) rfl rfl H hst rfl ?_
  clear H hst
  intro ret
  have hcu9 := hch
  unfold Mach.chain Chain10 at hcu9
  have S9 : Srt [L, L + 1, L + 1 + 1, L + 1 + 1 + 1, SP, K.cT, K.cA, K.A, K.c, K.Fn, K.S, K.dS, K.d, K.M, K.P] := srt_c (Nat.lt_succ_self _) <| srt_c (Nat.lt_succ_self _) <| srt_c (Nat.lt_succ_self _) <| srt_c (hlt.1) <| srt_c (hlt.2) <| srt_c (hcu9.1) <| srt_c (hcu9.2.1) <| srt_c (hcu9.2.2.1) <| srt_c (hcu9.2.2.2.1) <| srt_c (hcu9.2.2.2.2.1) <| srt_c (hcu9.2.2.2.2.2.1) <| srt_c (hcu9.2.2.2.2.2.2.1) <| srt_c (hcu9.2.2.2.2.2.2.2.1) <| srt_c (hcu9.2.2.2.2.2.2.2.2) <| srt_1
  clear hcu9
  have hvl := hpI.length
  have hcu := hch
  unfold Mach.chain Chain10 at hcu
  have F1 := fr_know F hm
  clear F
  k_extra "g"
  obtain ⟨y0, y1, y2, hrvE, hy0, _, _⟩ := paired3 hrv
  subst hrvE
  refine ex_3 hy0 fun R0 zs nz k_ => and_3 k_ fun r1_ hR0 hzs => ?_
  clear k_ hy0
  subst r1_
  k_extra "h"
  have hzl := hzs.length
  (try dsimp only)
  k_extra "TOLCT"
  refine lc_list (vs := pv) (ax := SP) (c := pc) (Dr := fun d => d = s.drawn) (fun i ys led => ∃ pd' n3', led = (K.P, W.listOf (pd' : List Value).toArray n3') :: (K.M, instObj 137 K.d) :: (K.d, K.dict ln0 tl) :: (SP, W.listOf pv.toArray pc) :: (L + 1 + 1 + 1, o3) :: (L + 1 + 1, o2) :: fz ∧ StrsAre pd' ((ln.drop i).map showI) ∧ StrsAre ys ((ln.take i).map showI)) rfl (by decide) rfl rfl F1 N (by repeat' (first | exact .head _ | apply List.Mem.tail)) (by omega) rfl ⟨_, _, rfl, by simpa using hpd, .nil⟩ ?turn ?fin
  case turn =>
    intro i v ys led I oI C oC D2 m₂ h tk dr E' hv hi hdr hyl hC hx F2 N2 off hne hlt2 hIl hS hJ
    k_extra "g"
    refine ex_2 hJ fun pd' n3' k_ => and_3 k_ fun r1_ hpd' hys => ?_
    clear k_ hJ
    subst r1_
    k_extra "h"
    subst hdr
    clear hS N
    k_lt hIl
    have hil : i < ln.length := by omega
    rw [List.drop_eq_getElem_cons hil, List.map_cons] at hpd'
    generalize hrest : ln.drop (i + 1) = lr at hpd'
    cases hpd' with
    | cons _ tq hpd2 =>
    rename_i pd2
    have hpd2l := strs_len hpd2
    rw [List.length_map, ← hrest, List.length_drop] at hpd2l
    (first | (refine opq_turn ?_; intro QT9 hT9) | (refine opq_V ?_; intro QT9 hT9))
    k_extra "STEPSD"
    rename News g L _ _ => NB
    rename Fr g L _ _ => FB
    (repeat walk_at "LEAVE9")
    refine exI_4 _ _ _ _ ⟨rfl, rfl, FB, NB, off, ⟨pc, by repeat' (first | exact .head _ | apply List.Mem.tail)⟩, pd2, _, rfl, ?hq, ?_⟩
    case hq => first | exact hpd2 | (rw [hrest]; exact hpd2)
    rw [List.take_succ_eq_append_getElem hil, List.map_append]
    exact strs_app hys
  case fin =>
    intro D2 h tk dr ys led hbl hdr hyl F2 N2 hne hS hJ
    k_extra "g"
    refine ex_2 hJ fun pd' n3' k_ => and_3 k_ fun r1_ hpd' hys => ?_
    clear k_ hJ
    subst r1_
    k_extra "h"
    subst hdr
    clear hS N
    rw [hvl, ← hll, List.drop_length] at hpd'
    rw [hvl, ← hll, List.take_length] at hys
    cases hpd'
    have hPD : @LT.lt Nat _ K.P D2 := hbl _ (.head _)
    clear hbl
    repeat' (first | ((fail_if_success (with_reducible show wpAny _ _ (subscriptTail _ _ _ _) _ _ _)); k_extra "STEP1"))
    have hT7 : ∀ q ∈ fz, q ∈ (D2, LCg.lst ys) :: (K.P, W.listOf #[] n3') :: (K.M, instObj 137 K.d) :: (K.d, K.dict ln0 tl) :: (SP, W.listOf pv.toArray pc) :: (L + 1 + 1 + 1, o3) :: (L + 1 + 1, o2) :: fz := fun q hq => .tail _ (.tail _ (.tail _ (.tail _ (.tail _ (.tail _ (.tail _ hq))))))
    k_dflt (refine' get_A (l := RW) (vs := [.ref R0, y1, y2]) (k := 0) (v := .ref R0) N2 (hT7 _ hRW) rfl (by decide) rfl ?_ (by with_unfolding_all rfl))
    refine lc_listT (vs := zs) (ax := R0) (c := nz) (Dr := fun d => d = s.drawn) (fun i ys2 led => led = (D2, LCg.lst ys) :: (K.P, W.listOf #[] n3') :: (K.M, instObj 137 K.d) :: (K.d, K.dict ln0 tl) :: (SP, W.listOf pv.toArray pc) :: (L + 1 + 1 + 1, o3) :: (L + 1 + 1, o2) :: fz ∧ ∃ kl : List Nat, StrsAre ys2 (kl.map (fun k => showI (ps.getD k 0))) ∧ PySem.Paired (fun k v => ∃ jn : Nat, At ps uu pp ((pr * 1 * v).fmod pp) k jn) kl (ps.take i)) ?hh ?hcell ?hkind ?hxa ?hxb ?hab F2 N2 (hT7 _ hR0) ?hn ?hD ?hJ ?hTup ?turn2 ?fin2
    case hh => rfl
    case hcell => decide
    case hkind => rfl
    case hxa => rfl
    case hxb => rfl
    case hab => decide
    case hn => omega
    case hD => rfl
    case hJ => exact ⟨rfl, [], .nil, .nil⟩
    case hTup =>
      intro i v ys led hv hJ
      k_extra "g"
      obtain ⟨rfl, _⟩ := hJ
      refine ex_1 (paired_get hzs i v hv) fun y k_ => and_2 k_ fun hy k_ => ex_5 k_ fun T t1 t2 k j k_ => and_3 k_ fun r1_ hm _ => ?_
      repeat clear k_
      subst r1_
      k_extra "h"
      exact ⟨T, _, _, _, rfl, hT7 _ hm⟩
    case turn2 =>
      intro i v T va vb k ys2 led I oI C oC D m₂ h tk dr E' hv hvT hTm hi hdr hyl2 hC hxa hxb F3 N3 off hne2 hlt2 hIl hS hJ
      k_extra "g"
      obtain ⟨rfl, kl, hys2, hkl⟩ := hJ
      subst hdr hvT
      clear hS
      refine ex_1 (paired_get hzs i _ hv) fun y k_ => and_2 k_ fun hy k_ => ex_5 k_ fun T' t1 t2 kn jn k_ => and_3 k_ fun e hm2 hAt => ?_
      repeat clear k_
      k_extra "h"
      cases e
      have g1 := (N3 _ (.tail _ (.tail _ (.tail _ hTm)))).1
      have g2 := (N3 _ (.tail _ (.tail _ (.tail _ (hT7 _ hm2))))).1
      have g3 := Option.some.inj (g1.symm.trans g2)
      have hva : va = .int ((kn : Nat) : Int) t1 := by
        have := congrArg Obj.data g3
        simp only [tup2] at this
        injection this with a1 a2
        injection a1 with a3
        injection a3
      subst hva
      have hk6 : kn < ps.length := hAt.1
      have hsk : 1 ≤ ps.getD ((kn : Nat) : Int).toNat 0 ∧ ps.getD ((kn : Nat) : Int).toNat 0 ≤ 36 := hpr _ (show ps.getD ((kn : Nat) : Int).toNat 0 ∈ ps from by
        rw [Int.toNat_natCast, List.getD_eq_getElem?_getD, List.getElem?_eq_getElem hk6]
        exact List.getElem_mem _)
      clear g1 g2 g3 hne2 hlt2 hIl N2
      (first | (refine opq_turn ?_; intro QT9 hT9) | (refine opq_V ?_; intro QT9 hT9))
      k_extra "STEPSD"
      rename News g L _ _ => NB
      rename Fr g L _ _ => FB
      (repeat walk_at "LEAVE9")
      refine exI_4 _ _ _ _ ⟨rfl, rfl, FB, NB, off, ⟨nz, hT7 _ hR0⟩, rfl, kl ++ [kn], ?_, paired_snoc_take hkl hy ⟨jn, hAt⟩⟩
      rw [List.map_append]
      exact strs_app hys2
    case fin2 =>
      intro D3 h tk dr ys2 led hbl3 hdr hyl3 F3 N3 hne3 hS hJ
      k_extra "g"
      obtain ⟨rfl, kl, hys2, hkl⟩ := hJ
      k_extra "h"
      subst hdr
      clear hS
      rw [List.take_of_length_le (by omega)] at hkl
      have hys3 : StrsAre ys2 (ln.map showI) := by
        rw [← hline kl hkl, List.map_map]
        exact hys2
      repeat' (first | ((fail_if_success (with_reducible show wpAny _ _ (compareOp CmpOp.NotEq (Value.ref _) (Value.ref _)) _ _ _)); k_extra "STEP1"))
      k_dflt (refine' ne_strs N3 (.tail _ (.head _)) (.head _) hys hys3 ?hok ?hu ?_)
      case hok =>
        intro x hx
        k_extra "g"
        obtain ⟨y, hy, rfl⟩ := List.mem_map.mp hx
        k_extra "h"
        exact dig_ok (num_ok (hlr y hy)).1
      case hu => first | exact Nat.le_of_ble_eq_true rfl | units_room
      k_extra "STEPSD"
      (try dsimp only)
      have NB := N3
      refine ret n3' _ _ (fr_unknow F3 hm) ?nn
      case nn => k_extra "NWS"
end
end seg12
theorem seg12 {qual scope body st} (H : LawAt w qual scope body) (hst : body[12]? = some st) {rest : List Stmt} {fa L SP RW : Addr} {cd : Value} {g : Heap} {s : Shared} {m : Str → Option Value} {Q : Flow → Shared → Prop} {E : Value → Shared → Prop} {o2 o3 : Obj} {fz : Led} {pc nr n3 : Nat} {tl : Tok} {ln0 pp uu pr : Int} {pv rv pd : List Value} {ps ln : List Int} {K : Mach}
    (B : Below callerA g [] g) (F : Fr g L s.heap m) (X : (kf.heap_1 w.params).In g) (T : Top topProg loose mean mg mb g)
    (N : News g L s.heap ((K.P, W.listOf pd.toArray n3) :: (K.M, instObj 137 K.d) :: (K.d, K.dict ln0 tl) :: (SP, W.listOf pv.toArray pc) :: (L + 1 + 1 + 1, o3) :: (L + 1 + 1, o2) :: fz))
    (hlt : @LT.lt Nat _ (L + 1 + 1 + 1) SP ∧ @LT.lt Nat _ SP K.cT) (hch : K.chain) (hP : AllNe K.P fz)
    (hm : m (Str.ofString "rows") = some (.ref RW)) (hRW : (RW, W.listOf rv.toArray nr) ∈ fz) (hrv : PySem.Paired (fun y b => RowAt fz ps uu pp (pr * b) y) rv [1, -1, uu]) (d2 : o2.data = .cell (some (.ref SP))) (d3 : o3.data = .cell (some (.ref K.M)))
    (hpI : IntsAre pv ps) (hpl : 1 ≤ ps.length ∧ ps.length ≤ 6) (hpr : ∀ y ∈ ps, 1 ≤ y ∧ y ≤ 36) (hpd : StrsAre pd (ln.map showI)) (hll : ln.length = ps.length) (hlr : ∀ y ∈ ln, 1 ≤ y ∧ y ≤ 36)
    (hline : ∀ kl : List Nat, PySem.Paired (fun k v => ∃ jn : Nat, At ps uu pp ((pr * 1 * v).fmod pp) k jn) kl ps → kl.map (fun k => ps.getD k 0) = ln)
    (ret : ∀ n3' h' tk', Fr g L h' m → News g L h' ((K.P, W.listOf #[] n3') :: (K.M, instObj 137 K.d) :: (K.d, K.dict ln0 tl) :: (SP, W.listOf pv.toArray pc) :: (L + 1 + 1 + 1, o3) :: (L + 1 + 1, o2) :: fz) →
      wpAny (model prog w) (callerA.deeper (envOfC qual scope L fa cd)) (execs rest (envOfC qual scope L fa cd)) Q E { s with heap := h', toks := tk' }) :
    wpAny (model prog w) (callerA.deeper (envOfC qual scope L fa cd)) (execs (st :: rest) (envOfC qual scope L fa cd)) Q E s := ((seg12.spec9 seg12.core9 ((((((prog, w), loose), (mean, mg)), ((mb, rest), (fa, L))), (((SP, RW), (cd, g)), ((s, m), (Q, E)))), (((((o2, o3), fz), (pc, nr)), ((n3, tl), (ln0, pp))), (((uu, pr), (pv, rv)), ((pd, ps), (ln, K))))) : seg12.Claim9 prog w loose mean mg mb rest fa L SP RW cd g s m Q E o2 o3 fz pc nr n3 tl ln0 pp uu pr pv rv pd ps ln K)) qual scope body st H hst B F X T N hlt hch hP hm hRW hrv d2 d3 hpI hpl hpr hpd hll hlr hline ret
end
end
section
section
variable (prog : Program) (w : World) (loose : List Str) (mean : ExcName → Option Value) (mg mb : Str → Option Value)
section
variable {prog : Program} {w : World} {A : Around} {E : Value → Shared → Prop} {s : Shared} {h₀ : Heap} {L : Addr} {m : Str → Option Value} {env : Env}
def LBackX (h₀ : Heap) (L : Addr) (m : Str → Option Value) (s : Shared) (Dr : Drawn → Prop) (I : Addr) (oI : Obj) (C : Addr) (oC : Obj) (D : Addr) (oD : Obj) (X : Addr) (S : Led → Prop) (J : Value → Led → Prop) (y : Value) (s3 : Shared) : Prop :=
  ∃ h tk dr led oX v, s3 = { s with heap := h, toks := tk, drawn := dr } ∧ Dr dr ∧ Fr h₀ L h m ∧ News h₀ L h ((I, oI) :: (C, oC) :: (D, oD) :: (X, oX) :: led) ∧ oX.data = Data.cell v ∧ AllNe X led ∧ LCg.Off3 I C D led ∧ S led ∧ J y led
theorem cellsFrom_none : ∀ (gs : List (Str × NameKind)) (n : Nat) (acc : List (Str × Addr)), (∀ y ∈ gs, y.2 ≠ .cell) → cellsFrom n gs acc = acc
  | [], _, _, _ => rfl
  | (a, k) :: r, n, acc, h => by
    have hk : (k == NameKind.cell) = false := by simpa using h _ (.head _)
    unfold cellsFrom
    rw [hk]
    exact cellsFrom_none r n acc fun y hy => h y (.tail _ hy)
theorem pushCells_none : ∀ (gs : List (Str × NameKind)) (h : Heap), (∀ y ∈ gs, y.2 ≠ .cell) → pushCells h gs = h
  | [], _, _ => rfl
  | (a, k) :: r, h, hh => by
    have hk : (k == NameKind.cell) = false := by simpa using hh _ (.head _)
    unfold pushCells
    rw [hk]
    exact pushCells_none r h fun y hy => hh y (.tail _ hy)
theorem newEnvX {M : Model} {scope : Scope} {x : Str} {gs : List (Str × NameKind)} {globals : Addr} {cl : List (Str × Addr)} {qual : Str} {func : Option Addr} {code : Value} {builtins : Addr} {Q : Env → Shared → Prop}
    (hnm : scope.names = ((".0" : Str), NameKind.local) :: (x, NameKind.cell) :: gs) (hgs : ∀ y ∈ gs, y.2 ≠ .cell)
    (hQ : Q (newEnv scope s.heap.objs.size globals ((x, s.heap.objs.size + 1) :: cl) qual func code (some env) builtins) { s with heap := (s.heap.push { cls := .type "dict", data := .dict #[] }).push { cls := .type "cell", data := .cell none } }) :
    wpAny M A (newFunctionEnv scope globals cl [] qual func code (some env) builtins) Q E s := by
  simp only [newFunctionEnv, Option.isSome_some, if_true]
  refine wpAny_bind (wpAny_alloc ?_)
  refine wpAny_bind (wpAny_layCells _ (fun name kind cells => by cases hkc : kind == NameKind.cell <;> simp [hkc]) _ _ _ _ ?_)
  rw [hnm]
  have e1 : ∀ n, cellsFrom n (((".0" : Str), NameKind.local) :: (x, NameKind.cell) :: gs) cl = (x, n) :: cl := fun n => cellsFrom_none gs (n + 1) _ hgs
  have e2 : ∀ h, pushCells h (((".0" : Str), NameKind.local) :: (x, NameKind.cell) :: gs) = h.push { cls := .type "cell", data := .cell none } := fun h => pushCells_none gs _ hgs
  rw [e1, e2]
  dsimp only
  rw [Heap.size_push]
  refine wpAny_bind (wpAny_pure (wpAny_pure ?_))
  exact hQ
theorem kindOf_relabelX {scope : Scope} {x : Str} {gs : List (Str × NameKind)} {cl : List (Str × Addr)} {C : Addr} (hnm : scope.names = ((".0" : Str), NameKind.local) :: (x, NameKind.cell) :: gs) (hx0 : x ≠ (".0" : Str)) : (compEnvC scope cl C env).kindOf x = some .cell := by
  unfold compEnvC Env.kindOf relabel
  rw [hnm]
  have h1 : (x == (".0" : Str)) = false := beq_false_of_ne hx0
  simp [List.lookup, h1]
namespace lc_blockX
noncomputable section
def Claim9 (prog : Program) (w : World) (A : Around) (E : Value → Shared → Prop) (s : Shared) (h₀ : Heap) (L : Addr) (m : Str → Option Value) (env : Env) (elt iter : Expr) (x : Str) (px : Pos) (cl : List (Str × Addr)) (pos : Pos) (I : Addr) (fp : List Addr) (n : Nat) (P : Nat → Value → Prop) (St : Nat → Heap → Prop) (S : Led → Prop) (Dr : Drawn → Prop) (J : Nat → List Value → Led → Prop) (led0 : Led) (gs : List (Str × NameKind)) : Prop := ∀ (scope : Scope) (RR : Value → Addr → Result → Shared → Prop) (W : Walks prog w A I fp [I] n P St) (hsz : n ≤ 1000) (hIo : ∀ i h, St i h → ∃ o, h.get? I = some o) (hSt : ∀ i h h' o nw, St i h → h.get? I = some o → h'.get? I = some o → (∀ b o, h₀.get? b = some o → h'.get? b = some o) → News h₀ L h' nw → S nw → St i h') (hnm : scope.names = ((".0" : Str), NameKind.local) :: (x, NameKind.cell) :: gs) (hgs : ∀ y ∈ gs, y.2 ≠ .cell) (hx0 : x ≠ (".0" : Str)) (hkind : scope.kind = .function) (hst : St 0 s.heap) (hfp : ∀ b ∈ fp, b < s.heap.objs.size) (F : Fr h₀ L s.heap m) (N : News h₀ L s.heap led0) (hIL : L ≠ I) (hI₀ : h₀.get? I = none) (off : ∀ p ∈ led0, p.1 ≠ I) (hS : S led0) (hD : Dr s.drawn) (hJ : J 0 [] led0) (turn : ∀ i v ys led oI C oC D X oX m₂ h tk dr (E' : Value → Shared → Prop), P i v → i < n → Dr dr → ys.length = i → LCg.NsObj oC m₂ → oX.data = .cell (some v) → Fr h₀ L h m → News h₀ L h ((I, oI) :: (C, oC) :: (D, LCg.lst ys) :: (X, oX) :: led) → LCg.Off3 I C D ((X, oX) :: led) → AllNe X led → (∀ p ∈ led0, @LT.lt Nat _ p.1 X) → ((@Ne Nat I C) ∧ (@Ne Nat I D) ∧ (@Ne Nat C D)) → (@LT.lt Nat _ I D ∧ @LT.lt Nat _ D C) → S led → J i ys led →
      wpAny (model prog w) A (eval elt (compEnvC scope ((x, X) :: cl) C env)) (LBackX h₀ L m s Dr I oI C oC D (LCg.lst ys) X S (fun y led' => J (i + 1) (ys ++ [y]) led')) E' { s with heap := h, toks := tk, drawn := dr }) (hRR : ∀ D C h tk dr m' ys led, (∀ p ∈ led0, p.1 < D) → Dr dr → ys.length = n → Fr h₀ L h m → News h₀ L h ((D, LCg.lst ys) :: led) → (∀ p ∈ led, p.1 ≠ D) → h.Ns C m' → h₀.get? C = none → h₀.get? D = none → C ≠ L → D ≠ L → C ≠ D → (∀ p ∈ led, p.1 ≠ C) → S led → J n ys led → RR (.ref D) C (.ok .next) { s with heap := h, toks := tk, drawn := dr }), wpAny (model prog w) A (newList []) (fun acc s₃ => wpAny (model prog w) A (newFunctionEnv scope env.globals cl [] env.qual none .none (some env)) (fun cenv s₄ =>
      codeAny (model prog w) A (.compStart (.ListComp elt [⟨.Name x px, iter, [], 0⟩] scope pos) 0 (.ref I) acc { cenv with scope := relabel scope env }) (RR acc cenv.locals) s₄) E s₃) E s
abbrev T9 : Type := (((((Program × World) × (Around × (Value → Shared → Prop))) × ((Shared × Heap) × Addr)) × ((((Str → Option Value) × Env) × Expr) × ((Expr × Str) × Pos))) × (((((List (Str × Addr)) × Pos) × Addr) × (((List Addr) × Nat) × (Nat → Value → Prop))) × ((((Nat → Heap → Prop) × (Led → Prop)) × (Drawn → Prop)) × (((Nat → List Value → Led → Prop) × Led) × (List (Str × NameKind))))))
def U9 (t : T9) : Prop := Claim9 t.1.1.1.1.1 t.1.1.1.1.2 t.1.1.1.2.1 t.1.1.1.2.2 t.1.1.2.1.1 t.1.1.2.1.2 t.1.1.2.2 t.1.2.1.1.1 t.1.2.1.1.2 t.1.2.1.2 t.1.2.2.1.1 t.1.2.2.1.2 t.1.2.2.2 t.2.1.1.1.1 t.2.1.1.1.2 t.2.1.1.2 t.2.1.2.1.1 t.2.1.2.1.2 t.2.1.2.2 t.2.2.1.1.1 t.2.2.1.1.2 t.2.2.1.2 t.2.2.2.1.1 t.2.2.2.1.2 t.2.2.2.2
@[irreducible] def v9 : T9 := ch9 (by k_extra "NE") U9
theorem spec9 : U9 v9 → ∀ t, U9 t := by with_unfolding_all exact sp9 _ U9
theorem core9 : U9 v9 := by
  refine (let prog := v9.1.1.1.1.1; let w := v9.1.1.1.1.2; let A := v9.1.1.1.2.1; let E := v9.1.1.1.2.2; let s := v9.1.1.2.1.1; let h₀ := v9.1.1.2.1.2; let L := v9.1.1.2.2; let m := v9.1.2.1.1.1; let env := v9.1.2.1.1.2; let elt := v9.1.2.1.2; let iter := v9.1.2.2.1.1; let x := v9.1.2.2.1.2; let px := v9.1.2.2.2; let cl := v9.2.1.1.1.1; let pos := v9.2.1.1.1.2; let I := v9.2.1.1.2; let fp := v9.2.1.2.1.1; let n := v9.2.1.2.1.2; let P := v9.2.1.2.2; let St := v9.2.2.1.1.1; let S := v9.2.2.1.1.2; let Dr := v9.2.2.1.2; let J := v9.2.2.2.1.1; let led0 := v9.2.2.2.1.2; let gs := v9.2.2.2.2; (?_ : Claim9 prog w A E s h₀ L m env elt iter x px cl pos I fp n P St S Dr J led0 gs))
  clear_value prog w A E s h₀ L m env elt iter x px cl pos I fp n P St S Dr J led0 gs
  intro scope RR W hsz hIo hSt hnm hgs hx0 hkind hst hfp F N hIL hI₀ off hS hD hJ turn hRR
  refine wpAny_newObj_type (newEnvX hnm hgs ?_)
  dsimp only
  have hlt : ∀ b o, s.heap.get? b = some o → b < s.heap.objs.size := fun b o e => Heap.lt_size e
  generalize eB : s.heap.push { cls := .type "list", dict := none, data := .seq ([] : List Value).toArray } = HB
  have sB : HB.objs.size = s.heap.objs.size + 1 := by rw [← eB, Heap.size_push]
  generalize eA : (HB.push { cls := .type "dict", data := .dict #[] }).push { cls := .type "cell", data := .cell none } = hA
  have sA1 : (HB.push { cls := .type "dict", data := .dict #[] }).objs.size = HB.objs.size + 1 := Heap.size_push ..
  have upA : ∀ b o, HB.get? b = some o → hA.get? b = some o := fun b o e => eA ▸ Heap.get?_push_of_some _ (Heap.get?_push_of_some _ e)
  have nsA : hA.Ns HB.objs.size (fun x => ([] : List (Str × Value)).reverse.lookup x) := eA ▸ (Heap.Ns.new ..).push _
  have hXA : hA.get? (HB.objs.size + 1) = some { cls := .type "cell", data := .cell none } := by rw [← eA, ← sA1]; exact Heap.get?_push_size _ rfl
  have fresh : ∀ a, s.heap.objs.size ≤ a → h₀.get? a = none := fun a ha => by
    cases e : h₀.get? a with
    | none => rfl
    | some o => exact absurd (Heap.lt_size (F.keep a o e)) (Nat.not_lt.mpr ha)
  have nD : h₀.get? s.heap.objs.size = none := fresh _ (Nat.le_refl _)
  have nC : h₀.get? HB.objs.size = none := fresh _ (by rw [sB]; exact Nat.le_succ _)
  have nX : h₀.get? (HB.objs.size + 1) = none := fresh _ (by rw [sB]; omega)
  have apart : ∀ b, b < s.heap.objs.size → b ≠ HB.objs.size ∧ b ≠ s.heap.objs.size := fun b hb => ⟨by rw [sB]; exact Nat.ne_of_lt (Nat.lt_succ_of_lt hb), Nat.ne_of_lt hb⟩
  have dc : s.heap.objs.size ≠ HB.objs.size := by rw [sB]; exact Nat.ne_of_lt (Nat.lt_succ_self _)
  have ups : ∀ b o, s.heap.get? b = some o → hA.get? b = some o := fun b o e => upA b o (eB ▸ Heap.get?_push_of_some _ e)
  have hacc : hA.get? s.heap.objs.size = some (LCg.lst []) := upA _ _ (eB ▸ Heap.get?_push_size _ rfl)
  have hIf : I ∈ fp := W.sub I (List.mem_singleton.mpr rfl)
  have offD : s.heap.objs.size ∉ fp := fun hm => Nat.lt_irrefl _ (hfp _ hm)
  have offC : HB.objs.size ∉ fp := fun hm => by have := hfp _ hm; rw [sB] at this; exact Nat.lt_irrefl _ (Nat.lt_of_succ_lt this)
  have offX : HB.objs.size + 1 ∉ fp := fun hm => by have := hfp _ hm; rw [sB] at this; exact absurd this (Nat.not_lt.mpr (Nat.le_add_right _ 2))
  have xfar : ∀ b, b < s.heap.objs.size → b ≠ HB.objs.size + 1 := fun b hb => by rw [sB]; omega
  have iX := xfar I (hfp I hIf)
  have lX := xfar L F.ns.lt
  have cx : HB.objs.size ≠ HB.objs.size + 1 := Nat.ne_of_lt (Nat.lt_succ_self _)
  have dx : s.heap.objs.size ≠ HB.objs.size + 1 := by rw [sB]; omega
  have iC := (apart I (hfp I hIf)).1
  have iD := (apart I (hfp I hIf)).2
  have lC := (apart L F.ns.lt).1
  have lD := (apart L F.ns.lt).2
  have hst1 : St 0 hA := W.frame _ _ _ hst fun b _ o e => ups b o e
  have loop : ∀ s₃ : Shared, s₃ = { s with heap := hA, toks := s.toks } →
      codeAny (model prog w) A (.compLoop (.ListComp elt [⟨.Name x px, iter, [], 0⟩] scope pos) 0 (.ref I) (.ref s.heap.objs.size) (compEnvC scope ((x, HB.objs.size + 1) :: cl) HB.objs.size env)) (RR (.ref s.heap.objs.size) HB.objs.size) s₃ := by
    rintro s₃ rfl
    refine codeAny_compLoop_tests
      (fun k s' => ∃ h tk dr i ys m' led oX v0, s' = { s with heap := h, toks := tk, drawn := dr } ∧ Dr dr ∧ i ≤ n ∧ k = n + 1 - i ∧ ys.length = i ∧ St i h ∧ Fr h₀ L h m ∧ h.Ns HB.objs.size m' ∧ News h₀ L h ((s.heap.objs.size, LCg.lst ys) :: (HB.objs.size + 1, oX) :: led) ∧ oX.data = Data.cell v0 ∧ AllNe (HB.objs.size + 1) led ∧
        LCg.Off3 I HB.objs.size s.heap.objs.size led ∧ S led ∧ J i ys led) ?_ (n + 1)
      ⟨hA, _, s.drawn, 0, [], _, led0, ({ cls := .type "cell", data := .cell none } : Obj), none, rfl, hD, Nat.zero_le _, rfl, rfl, hst1, F.keeps ups, nsA, fun p hp => ?_, rfl, allNe_of fun p hp => xfar _ (hlt _ _ (N p hp).1), LCg.Off3.of fun p hp => ⟨off p hp, apart _ (hlt _ _ (N p hp).1)⟩, hS, hJ⟩
    · intro k s' hI_
      refine ex_9 hI_ ?_; clear hI_; intro h tk dr i ys m' led oX v0 hI_
      refine and_13 hI_ ?_; clear hI_; intro hs1_ hd hi hs2_ hyl hst' F' ns' N' hoX hXl off' hZ_
      refine and_2 hZ_ ?_; clear hZ_; intro hS' hJ'
      subst hs1_
      subst hs2_
      have off3 := off'.mem
      by_cases hlt' : i < n
      · refine W.item i _ _ _ hlt' hst' fun v h2 tk2 hP hst2 k2 => ?_
        have N2 : News h₀ L h2 ((s.heap.objs.size, LCg.lst ys) :: (HB.objs.size + 1, oX) :: led) := LCg.news_but N' k2 fun p hp => by
          k_extra "g"
          rcases List.mem_cons.mp hp with rfl | hp <;> k_extra "h"
          · exact Ne.symm iD
          · rcases List.mem_cons.mp hp with rfl | hp
            · exact Ne.symm iX
            · exact (off3 p hp).1
        have hk : (compEnvC scope ((x, HB.objs.size + 1) :: cl) HB.objs.size env).kindOf x = some .cell := kindOf_relabelX hnm hx0
        refine wpAny_assign_Name (wpAny_storeName_cell (c := HB.objs.size + 1) (by simp [compEnvC, relabel, hkind]) hk (by simp [compEnvC]) ⟨oX, (N2 _ (.tail _ (.head _))).1, hoX⟩ (fun h3 hc3 sb3 => ?_))
        refine wpAny_tests_nil ?_
        simp only [if_true]
        have hst3 : St (i + 1) h3 := W.frame _ _ _ hst2 fun b hb o e => sb3.extBut b o (fun q => offX (by have q' : b = HB.objs.size + 1 := q; rw [← q']; exact hb)) e
        k_extra "g"
        obtain ⟨oI, eI⟩ := hIo _ _ hst3
        have ns2 : h2.Ns HB.objs.size m' := ns'.at' fun o e => k2 _ o (by simpa using Ne.symm iC) e
        have ns3 : h3.Ns HB.objs.size m' := ns2.sameBut sb3 cx
        obtain ⟨oC, eC, hoC⟩ := LCg.ns_obj ns3
        obtain ⟨oX3, eX3, hX3⟩ := hc3
        k_extra "h"
        have F3 : Fr h₀ L h3 m := (LCg.fr_but F' k2 hIL hI₀).change sb3 (Ne.symm lX) nX
        have N3 : News h₀ L h3 ((I, oI) :: (HB.objs.size, oC) :: (s.heap.objs.size, LCg.lst ys) :: (HB.objs.size + 1, oX3) :: led) := fun p hp => by
          k_extra "g"
          rcases List.mem_cons.mp hp with rfl | hp <;> k_extra "h"
          · exact ⟨eI, Ne.symm hIL, hI₀⟩
          · rcases List.mem_cons.mp hp with rfl | hp
            · exact ⟨eC, Ne.symm lC, nC⟩
            · rcases List.mem_cons.mp hp with rfl | hp
              · exact ⟨sb3.extBut _ _ dx (N2 _ (.head _)).1, Ne.symm lD, nD⟩
              · rcases List.mem_cons.mp hp with rfl | hp
                · exact ⟨eX3, Ne.symm lX, nX⟩
                · have z := N2 p (mem_dr 2 hp)
                  exact ⟨sb3.extBut _ _ (allNe_to hXl p hp) z.1, z.2⟩
        refine wpAny_mono (turn i v ys led oI _ oC _ _ oX3 _ h3 _ dr _ hP hlt' hd hyl hoC hX3 F3 N3 ⟨⟨Ne.symm iX, Ne.symm cx, Ne.symm dx⟩, off'⟩ hXl (fun p hp => by have := hlt _ _ (N p hp).1; show @LT.lt Nat _ _ _; rw [sB]; exact Nat.lt_of_lt_of_le this (Nat.le_add_right _ 2)) ⟨iC, iD, Ne.symm dc⟩ ⟨hfp I hIf, by rw [sB]; exact Nat.lt_succ_self _⟩ hS' hJ') (fun y s4 q => ?_) fun _ _ e => e
        k_extra "g"
        refine ex_6 q ?_; clear q; intro h4 tk4 dr4 led4 oX4 v4 q
        refine and_9 q ?_; clear q; intro hs1_ hd4 F4 N4 hX4 hXl4 off4 hS4 hJ4
        subst hs1_
        k_extra "h"
        have zI := (N4 _ (.head _)).1
        have zC := (N4 _ (.tail _ (.head _))).1
        have zD := (N4 _ (mem_ix 2 rfl)).1
        have N5 : News h₀ L h4 led4 := fun p hp => N4 p (mem_dr 4 hp)
        have zX := N4 _ (mem_ix 3 rfl)
        have hst4 : St (i + 1) h4 := hSt _ _ _ _ _ hst3 eI zI F4.keep N5 hS4
        have o4 := off4.mem
        refine append_at (hsz := by rw [List.size_toArray, hyl, PySem.sizeLine_eq]; omega) zD fun h5 sb5 e5 => ?_
        refine ⟨n + 1 - (i + 1), by omega, exI_9 h5 tk4 dr4 (i + 1) (ys ++ [y]) _ led4 oX4 v4 ⟨rfl, hd4, hlt', rfl, by rw [List.length_append, List.length_singleton, hyl], W.frame _ _ _ hst4 fun b hb o e => sb5.extBut b o (fun q => offD (by have q' : b = s.heap.objs.size := q; rw [← q']; exact hb)) e, F4.change sb5 (Ne.symm lD) nD, (hoC.ns zC).sameBut sb5 (Ne.symm dc), fun p hp => ?_, hX4, hXl4, off4, hS4, hJ4⟩⟩
        k_extra "g"
        rcases List.mem_cons.mp hp with rfl | hp <;> k_extra "h"
        · exact ⟨e5.trans (congrArg some (LCg.lst_snoc ys y)), Ne.symm lD, nD⟩
        · rcases List.mem_cons.mp hp with rfl | hp
          · exact ⟨sb5.extBut _ _ (Ne.symm dx) zX.1, zX.2⟩
          · exact ⟨sb5.extBut _ _ (o4 p hp).2.2 (N5 p hp).1, (N5 p hp).2⟩
      · obtain rfl : i = n := by omega
        refine W.done _ _ _ hst' fun h2 tk2 k2 => ?_
        refine hRR _ _ h2 tk2 dr _ ys led (fun p hp => hlt _ _ (N p hp).1) hd hyl (LCg.fr_but F' k2 hIL hI₀) (LCg.news_but (fun p hp => N' p (by
          k_extra "g"
          rcases List.mem_cons.mp hp with rfl | hp <;> k_extra "h"
          · exact .head _
          · exact mem_dr 2 hp)) k2 fun p hp => ?_) (fun p hp => (off3 p hp).2.2) (ns'.at' fun o e => k2 _ o (by simpa using Ne.symm iC) e) nC nD (Ne.symm lC) (Ne.symm lD) (Ne.symm dc) (fun p hp => (off3 p hp).2.1) hS' hJ'
        k_extra "g"
        rcases List.mem_cons.mp hp with rfl | hp <;> k_extra "h"
        · exact Ne.symm iD
        · exact (off3 p hp).1
    · rcases List.mem_cons.mp hp with rfl | hp
      · exact ⟨hacc, Ne.symm lD, nD⟩
      · rcases List.mem_cons.mp hp with rfl | hp
        · exact ⟨hXA, Ne.symm lX, nX⟩
        · exact ⟨ups _ _ (N p hp).1, (N p hp).2⟩
  exact codeAny_compStart_list (loop _ rfl) (W.self 0 _ _ _ hst1 (loop _ rfl))
end
end lc_blockX
theorem lc_blockX {elt iter : Expr} {x : Str} {px : Pos} {scope : Scope} {cl : List (Str × Addr)} {pos : Pos} {I : Addr} {fp : List Addr} {n : Nat} {P : Nat → Value → Prop} {St : Nat → Heap → Prop} {S : Led → Prop} {Dr : Drawn → Prop} {J : Nat → List Value → Led → Prop} {led0 : Led} {RR : Value → Addr → Result → Shared → Prop}
    (W : Walks prog w A I fp [I] n P St) (hsz : n ≤ 1000) (hIo : ∀ i h, St i h → ∃ o, h.get? I = some o)
    (hSt : ∀ i h h' o nw, St i h → h.get? I = some o → h'.get? I = some o → (∀ b o, h₀.get? b = some o → h'.get? b = some o) → News h₀ L h' nw → S nw → St i h')
    {gs : List (Str × NameKind)} (hnm : scope.names = ((".0" : Str), NameKind.local) :: (x, NameKind.cell) :: gs) (hgs : ∀ y ∈ gs, y.2 ≠ .cell) (hx0 : x ≠ (".0" : Str)) (hkind : scope.kind = .function) (hst : St 0 s.heap) (hfp : ∀ b ∈ fp, b < s.heap.objs.size)
    (F : Fr h₀ L s.heap m) (N : News h₀ L s.heap led0) (hIL : L ≠ I) (hI₀ : h₀.get? I = none) (off : ∀ p ∈ led0, p.1 ≠ I) (hS : S led0) (hD : Dr s.drawn) (hJ : J 0 [] led0)
    (turn : ∀ i v ys led oI C oC D X oX m₂ h tk dr (E' : Value → Shared → Prop), P i v → i < n → Dr dr → ys.length = i → LCg.NsObj oC m₂ → oX.data = .cell (some v) → Fr h₀ L h m → News h₀ L h ((I, oI) :: (C, oC) :: (D, LCg.lst ys) :: (X, oX) :: led) → LCg.Off3 I C D ((X, oX) :: led) → AllNe X led → (∀ p ∈ led0, @LT.lt Nat _ p.1 X) → ((@Ne Nat I C) ∧ (@Ne Nat I D) ∧ (@Ne Nat C D)) → (@LT.lt Nat _ I D ∧ @LT.lt Nat _ D C) → S led → J i ys led →
      wpAny (model prog w) A (eval elt (compEnvC scope ((x, X) :: cl) C env)) (LBackX h₀ L m s Dr I oI C oC D (LCg.lst ys) X S (fun y led' => J (i + 1) (ys ++ [y]) led')) E' { s with heap := h, toks := tk, drawn := dr })
    (hRR : ∀ D C h tk dr m' ys led, (∀ p ∈ led0, p.1 < D) → Dr dr → ys.length = n → Fr h₀ L h m → News h₀ L h ((D, LCg.lst ys) :: led) → (∀ p ∈ led, p.1 ≠ D) → h.Ns C m' → h₀.get? C = none → h₀.get? D = none → C ≠ L → D ≠ L → C ≠ D → (∀ p ∈ led, p.1 ≠ C) → S led → J n ys led → RR (.ref D) C (.ok .next) { s with heap := h, toks := tk, drawn := dr }) :
    wpAny (model prog w) A (newList []) (fun acc s₃ => wpAny (model prog w) A (newFunctionEnv scope env.globals cl [] env.qual none .none (some env)) (fun cenv s₄ =>
      codeAny (model prog w) A (.compStart (.ListComp elt [⟨.Name x px, iter, [], 0⟩] scope pos) 0 (.ref I) acc { cenv with scope := relabel scope env }) (RR acc cenv.locals) s₄) E s₃) E s := ((lc_blockX.spec9 lc_blockX.core9 (((((prog, w), (A, E)), ((s, h₀), L)), (((m, env), elt), ((iter, x), px))), ((((cl, pos), I), ((fp, n), P)), (((St, S), Dr), ((J, led0), gs)))) : lc_blockX.Claim9 prog w A E s h₀ L m env elt iter x px cl pos I fp n P St S Dr J led0 gs)) scope RR W hsz hIo hSt hnm hgs hx0 hkind hst hfp F N hIL hI₀ off hS hD hJ turn hRR
end
end
end
section
section
variable (prog : Program) (w : World) (loose : List Str) (mean : ExcName → Option Value) (mg mb : Str → Option Value)
section
variable {prog : Program} {w : World} {A : Around} {E : Value → Shared → Prop} {s : Shared} {h₀ : Heap} {L : Addr} {m : Str → Option Value} {env : Env}
section
variable {elt iter : PySem.Expr} {x : Str} {px pos : Pos} {scope : Scope} {cl : List (Str × Addr)} {Q : Value → Shared → Prop} {Dr : Drawn → Prop} {led0 : Led}
theorem lc_anyX {I : Addr} {fp : List Addr} {n : Nat} {P : Nat → Value → Prop} {St : Nat → Heap → Prop} {S : Led → Prop} {J : Nat → List Value → Led → Prop}
    (W : Walks prog w A I fp [I] n P St) (hsz : n ≤ 1000) (hIo : ∀ i h, St i h → ∃ o, h.get? I = some o)
    (hSt : ∀ i h h' o nw, St i h → h.get? I = some o → h'.get? I = some o → (∀ b o, h₀.get? b = some o → h'.get? b = some o) → News h₀ L h' nw → S nw → St i h')
    {gs : List (Str × NameKind)} (hnm : scope.names = ((".0" : Str), NameKind.local) :: (x, NameKind.cell) :: gs) (hgs : ∀ y ∈ gs, y.2 ≠ .cell) (hx0 : x ≠ (".0" : Str)) (hkind : scope.kind = .function) (hst : St 0 s.heap) (hfp : ∀ b ∈ fp, b < s.heap.objs.size)
    (F : Fr h₀ L s.heap m) (N : News h₀ L s.heap led0) (hIL : L ≠ I) (hI₀ : h₀.get? I = none) (off : ∀ p ∈ led0, p.1 ≠ I) (hS : S led0) (hD : Dr s.drawn) (hJ : J 0 [] led0)
    (turn : ∀ i v ys led oI C oC D X oX m₂ h tk dr (E' : Value → Shared → Prop), P i v → i < n → Dr dr → ys.length = i → LCg.NsObj oC m₂ → oX.data = .cell (some v) → Fr h₀ L h m → News h₀ L h ((I, oI) :: (C, oC) :: (D, LCg.lst ys) :: (X, oX) :: led) → LCg.Off3 I C D ((X, oX) :: led) → AllNe X led → (∀ p ∈ led0, @LT.lt Nat _ p.1 X) → ((@Ne Nat I C) ∧ (@Ne Nat I D) ∧ (@Ne Nat C D)) → (@LT.lt Nat _ I D ∧ @LT.lt Nat _ D C) → S led → J i ys led →
      wpAny (model prog w) A (eval elt (compEnvC scope ((x, X) :: cl) C env)) (LBackX h₀ L m s Dr I oI C oC D (LCg.lst ys) X S (fun y led' => J (i + 1) (ys ++ [y]) led')) E' { s with heap := h, toks := tk, drawn := dr })
    (fin : ∀ D h tk dr ys led, (∀ p ∈ led0, p.1 < D) → Dr dr → ys.length = n → Fr h₀ L h m → News h₀ L h ((D, LCg.lst ys) :: led) → AllNe D led → S led → J n ys led → Q (.ref D) { s with heap := h, toks := tk, drawn := dr }) :
    LcAt prog w A E env cl elt iter x px scope pos none Q (.ref I) s := by
  refine lc_blockX W hsz hIo hSt hnm hgs hx0 hkind hst hfp F N hIL hI₀ off hS hD hJ turn ?_
  intro D C h tk dr m' ys led hbl hd hyl F' N' o1 ns nC nD cl' dl cd oC hS' hJ'
  refine ⟨m', ns, fun h' sb => fin D h' tk dr ys led hbl hd hyl (F'.change sb cl' nC) (fun p hp => ?_) (allNe_of o1) hS' hJ'⟩
  refine ⟨sb.extBut _ _ ?_ (N' p hp).1, (N' p hp).2⟩
  k_extra "g"
  rcases List.mem_cons.mp hp with rfl | hp <;> k_extra "h"
  · exact Ne.symm cd
  · exact oC p hp
theorem lc_anyAX {y : Str} {py : Pos} {Q : Shared → Prop} {I : Addr} {fp : List Addr} {n : Nat} {P : Nat → Value → Prop} {St : Nat → Heap → Prop} {S : Led → Prop} {J : Nat → List Value → Led → Prop}
    (W : Walks prog w A I fp [I] n P St) (hsz : n ≤ 1000) (hIo : ∀ i h, St i h → ∃ o, h.get? I = some o)
    (hSt : ∀ i h h' o nw, St i h → h.get? I = some o → h'.get? I = some o → (∀ b o, h₀.get? b = some o → h'.get? b = some o) → News h₀ L h' nw → S nw → St i h')
    {gs : List (Str × NameKind)} (hnm : scope.names = ((".0" : Str), NameKind.local) :: (x, NameKind.cell) :: gs) (hgs : ∀ y ∈ gs, y.2 ≠ .cell) (hx0 : x ≠ (".0" : Str)) (hkind : scope.kind = .function) (hst : St 0 s.heap) (hfp : ∀ b ∈ fp, b < s.heap.objs.size)
    (F : Fr h₀ L s.heap m) (N : News h₀ L s.heap led0) (hIL : L ≠ I) (hI₀ : h₀.get? I = none) (off : ∀ p ∈ led0, p.1 ≠ I) (hS : S led0) (hD : Dr s.drawn) (hJ : J 0 [] led0)
    (turn : ∀ i v ys led oI C oC D X oX m₂ h tk dr (E' : Value → Shared → Prop), P i v → i < n → Dr dr → ys.length = i → LCg.NsObj oC m₂ → oX.data = .cell (some v) → Fr h₀ L h m → News h₀ L h ((I, oI) :: (C, oC) :: (D, LCg.lst ys) :: (X, oX) :: led) → LCg.Off3 I C D ((X, oX) :: led) → AllNe X led → (∀ p ∈ led0, @LT.lt Nat _ p.1 X) → ((@Ne Nat I C) ∧ (@Ne Nat I D) ∧ (@Ne Nat C D)) → (@LT.lt Nat _ I D ∧ @LT.lt Nat _ D C) → S led → J i ys led →
      wpAny (model prog w) A (eval elt (compEnvC scope ((x, X) :: cl) C env)) (LBackX h₀ L m s Dr I oI C oC D (LCg.lst ys) X S (fun y led' => J (i + 1) (ys ++ [y]) led')) E' { s with heap := h, toks := tk, drawn := dr })
    (fin : ∀ D C oC m₂ h tk dr ys led, (∀ p ∈ led0, p.1 < D) → Dr dr → ys.length = n → LCg.NsObj oC m₂ → Fr h₀ L h m → News h₀ L h ((D, LCg.lst ys) :: (C, oC) :: led) → AllNe D led → AllNe C led → @Ne Nat C D → S led → J n ys led →
      wpAny (model prog w) A (assign (.Name y py) env (.ref D)) (fun _ s3 => LGone C Q s3) E { s with heap := h, toks := tk, drawn := dr }) :
    LcAt prog w A E env cl elt iter x px scope pos (some (assign (.Name y py) env)) (fun _ s' => Q s') (.ref I) s := by
  refine lc_blockX W hsz hIo hSt hnm hgs hx0 hkind hst hfp F N hIL hI₀ off hS hD hJ turn ?_
  intro D C h tk dr m' ys led hbl hd hyl F' N' o1 ns nC nD cl' dl cd oC hS' hJ'
  k_extra "g"
  obtain ⟨ob, eb, hob⟩ := LCg.ns_obj ns
  k_extra "h"
  refine fin D C ob m' h tk dr ys led hbl hd hyl hob F' (fun p hp => ?_) (allNe_of o1) (allNe_of oC) cd hS' hJ'
  k_extra "g"
  rcases List.mem_cons.mp hp with rfl | hp <;> k_extra "h"
  · exact N' _ (.head _)
  · rcases List.mem_cons.mp hp with rfl | hp
    · exact ⟨eb, cl', nC⟩
    · exact N' _ (.tail _ hp)
theorem lc_listAX {y : Str} {py : Pos} {Q : Shared → Prop} {vs : List Value} {ax c : Nat} (J : Nat → List Value → Led → Prop) (hh : A.handled = none) {gs : List (Str × NameKind)} (hnm : scope.names = ((".0" : Str), NameKind.local) :: (x, NameKind.cell) :: gs) (hgs : ∀ y ∈ gs, y.2 ≠ .cell) (hx0 : x ≠ (".0" : Str)) (hkind : scope.kind = .function)
    (F : Fr h₀ L s.heap m) (N : News h₀ L s.heap led0) (hl : (ax, W.listOf vs.toArray c) ∈ led0) (hn : vs.length ≤ 60) (hD : Dr s.drawn) (hJ : J 0 [] led0)
    (turn : ∀ i v ys led I oI C oC D X oX m₂ h tk dr (E' : Value → Shared → Prop), vs[i]? = some v → i < vs.length → Dr dr → ys.length = i → LCg.NsObj oC m₂ → oX.data = .cell (some v) → Fr h₀ L h m → News h₀ L h ((I, oI) :: (C, oC) :: (D, LCg.lst ys) :: (X, oX) :: led) → LCg.Off3 I C D ((X, oX) :: led) → AllNe X led → (∀ p ∈ led0, @LT.lt Nat _ p.1 X) → ((@Ne Nat I C) ∧ (@Ne Nat I D) ∧ (@Ne Nat C D)) → (@LT.lt Nat _ I D ∧ @LT.lt Nat _ D C) → (∀ p ∈ led0, p.1 < I) → (∃ c, (ax, W.listOf vs.toArray c) ∈ led) → J i ys led →
      wpAny (model prog w) A (eval elt (compEnvC scope ((x, X) :: cl) C env)) (LBackX h₀ L m s Dr I oI C oC D (LCg.lst ys) X (fun led => ∃ c, (ax, W.listOf vs.toArray c) ∈ led) (fun y led' => J (i + 1) (ys ++ [y]) led')) E' { s with heap := h, toks := tk, drawn := dr })
    (fin : ∀ D C oC m₂ h tk dr ys led, (∀ p ∈ led0, p.1 < D) → Dr dr → ys.length = vs.length → LCg.NsObj oC m₂ → Fr h₀ L h m → News h₀ L h ((D, LCg.lst ys) :: (C, oC) :: led) → AllNe D led → AllNe C led → @Ne Nat C D → (∃ c, (ax, W.listOf vs.toArray c) ∈ led) → J vs.length ys led →
      wpAny (model prog w) A (assign (.Name y py) env (.ref D)) (fun _ s3 => LGone C Q s3) E { s with heap := h, toks := tk, drawn := dr }) :
    wpAny (model prog w) A (pyIter (.ref ax)) (LcAt prog w A E env cl elt iter x px scope pos (some (assign (.Name y py) env)) (fun _ s' => Q s')) E s := by
  have hl' : s.heap.IsList ax vs.toArray := ⟨_, (N _ hl).1, rfl, _, rfl⟩
  have hlt : ax < s.heap.objs.size := Heap.lt_size (N _ hl).1
  refine wpAny_pyIter_list hl' ?_
  have up : ∀ b o, s.heap.get? b = some o → (s.heap.push { cls := .type "list_iterator", data := .fields #[.ref ax, .int 0 0] }).get? b = some o := fun b o e => Heap.get?_push_of_some _ e
  refine lc_anyAX (S := fun led => ∃ c, (ax, W.listOf vs.toArray c) ∈ led) (J := J) (n := vs.length) (Walks.list hh s.heap.objs.size ax (Nat.ne_of_lt hlt) vs.toArray) (by omega) (fun i h st => by obtain ⟨o, e, _⟩ := st.1; exact ⟨o, e⟩) list_st' hnm hgs hx0 hkind
    ⟨⟨_, Heap.get?_push_size _ rfl, rfl, rfl⟩, hl'.push _⟩ (fun b hb => ?_) (F.keeps up) (N.grown up) (Nat.ne_of_lt F.ns.lt) (next_is_new F) (fun p hp => Nat.ne_of_lt (Heap.lt_size (N p hp).1)) ⟨_, hl⟩ hD hJ (fun i v ys led oI C oC D X oX m₂ h tk dr E' hP q1 q2 q3 q4 q5 q6 q7 q8 q8b q8c q9 q10 q11 q12 => turn i v ys led _ oI C oC D X oX m₂ h tk dr E' (by simpa using hP) q1 q2 q3 q4 q5 q6 q7 q8 q8b q8c q9 q10 (fun p hp => Heap.lt_size (N p hp).1) q11 q12) fin
  show b < (s.heap.push _).objs.size
  rw [Heap.size_push]
  k_extra "g"
  rcases List.mem_cons.mp hb with rfl | hb <;> k_extra "h"
  · exact Nat.lt_succ_self _
  · rw [List.mem_singleton.mp hb]; exact Nat.lt_succ_of_lt hlt
end
theorem lc_rangeX {elt iter : PySem.Expr} {x : Str} {px pos : Pos} {scope : Scope} {cl : List (Str × Addr)} {Q : Value → Shared → Prop} {Dr : Drawn → Prop} {led0 : Led} {R : Addr} {a b : Int} {t u t' : Tok} {n : Nat} (J : Nat → List Value → Led → Prop) (hh : A.handled = none) {gs : List (Str × NameKind)} (hnm : scope.names = ((".0" : Str), NameKind.local) :: (x, NameKind.cell) :: gs) (hgs : ∀ y ∈ gs, y.2 ≠ .cell) (hx0 : x ≠ (".0" : Str)) (hkind : scope.kind = .function)
    (F : Fr h₀ L s.heap m) (N : News h₀ L s.heap led0) (hl : (R, rngObj a b t u t') ∈ led0) (hab : b - a = (n : Int)) (hn : n ≤ 60) (ha : -1000 ≤ a ∧ a ≤ 1000) (hD : Dr s.drawn) (hJ : J 0 [] led0)
    (turn : ∀ i tx ys led I oI C oC D X oX m₂ h tk dr (E' : Value → Shared → Prop), i < n → Dr dr → ys.length = i → LCg.NsObj oC m₂ → oX.data = .cell (some (.int (a + (i : Int)) tx)) → Fr h₀ L h m → News h₀ L h ((I, oI) :: (C, oC) :: (D, LCg.lst ys) :: (X, oX) :: led) → LCg.Off3 I C D ((X, oX) :: led) → AllNe X led → (∀ p ∈ led0, @LT.lt Nat _ p.1 X) → ((@Ne Nat I C) ∧ (@Ne Nat I D) ∧ (@Ne Nat C D)) → (@LT.lt Nat _ I D ∧ @LT.lt Nat _ D C) → (∀ p ∈ led0, p.1 < I) → J i ys led →
      wpAny (model prog w) A (eval elt (compEnvC scope ((x, X) :: cl) C env)) (LBackX h₀ L m s Dr I oI C oC D (LCg.lst ys) X (fun _ => True) (fun y led' => J (i + 1) (ys ++ [y]) led')) E' { s with heap := h, toks := tk, drawn := dr })
    (fin : ∀ D h tk dr ys led, (∀ p ∈ led0, p.1 < D) → Dr dr → ys.length = n → Fr h₀ L h m → News h₀ L h ((D, LCg.lst ys) :: led) → AllNe D led → J n ys led → Q (.ref D) { s with heap := h, toks := tk, drawn := dr }) :
    wpAny (model prog w) A (pyIter (.ref R)) (LcAt prog w A E env cl elt iter x px scope pos none Q) E s := by
  have hr : IsRange s.heap R a b 1 t u t' := (N _ hl).1
  refine wpAny_pyIter_range hr (small_one (by omega) (by omega) (by omega) (by omega)) ?_
  rw [range_size hab]
  have up : ∀ b o, s.heap.get? b = some o → (s.heap.push { cls := .type "range_iterator", data := .fields #[rawInt a, rawInt (n : Int), rawInt 1] }).get? b = some o := fun b o e => Heap.get?_push_of_some _ e
  refine lc_anyX (S := fun _ => True) (J := J) (n := n) (LCg.range_walks hh a n) (by omega) (fun i h st => ⟨_, st⟩) LCg.range_st hnm hgs hx0 hkind
    (by simpa using Heap.get?_push_size _ rfl) (fun b hb => ?_) (F.keeps up) (N.grown up) (Nat.ne_of_lt F.ns.lt) (next_is_new F) (fun p hp => Nat.ne_of_lt (Heap.lt_size (N p hp).1)) trivial hD hJ (fun i v ys led oI C oC D X oX m₂ h tk dr E' hP hi hd hy hC hv F' N' o1 hXl hXg o2 o3 _ hJ' => ?_) (fun D h tk dr ys led hb hd hy F' N' o1 _ hJ' => fin D h tk dr ys led hb hd hy F' N' o1 hJ')
  · rw [List.mem_singleton.mp hb]
    show s.heap.objs.size < (s.heap.push _).objs.size
    rw [Heap.size_push]
    exact Nat.lt_succ_self _
  · obtain ⟨tx, rfl⟩ := hP
    exact turn i tx ys led _ oI C oC D X oX m₂ h tk dr E' hi hd hy hC hv F' N' o1 hXl hXg o2 o3 (fun p hp => Heap.lt_size (N p hp).1) hJ'
end
end
end
section
open L_P L_R L_T2 L_L L_X L_Y L_N
section
variable (prog : Program) (w : World) (loose : List Str) (mean : ExcName → Option Value) (mg mb : Str → Option Value)
noncomputable abbrev RB : Str := Str.ofString "rBgRbG"
noncomputable def letF (c : Nat) : Str := Txt.item RB (c : Int)
namespace seg13
noncomputable section
def Claim9 (prog : Program) (w : World) (loose : List Str) (mean : ExcName → Option Value) (mg mb : Str → Option Value) (rest : List Stmt) (fa L TW : Addr) (cd : Value) (g : Heap) (s : Shared) (m : Str → Option Value) (Q : Flow → Shared → Prop) (E : Value → Shared → Prop) (o6 : Obj) (fz : Led) (nt : Nat) (lv : List Value) (cs : List Nat) : Prop := ∀ qual scope body st (H : LawAt w qual scope body) (hst : body[13]? = some st) (B : Below callerA g [] g) (F : Fr g L s.heap m) (X : (kf.heap_1 w.params).In g) (T : Top topProg loose mean mg mb g) (N : News g L s.heap ((L + 1 + 1 + 1 + 1 + 1 + 1, o6) :: fz)) (h6 : AllNe (L + 1 + 1 + 1 + 1 + 1 + 1) fz) (d6 : o6.data = .cell none) (hm : m (Str.ofString "twice") = some (.ref TW)) (hTW : (TW, W.listOf lv.toArray nt) ∈ fz) (hlv : PySem.Paired (LightAt fz) lv cs) (hcl : cs.length ≤ 6) (ret : ∀ LE es ne o6' h' tk', Fr g L h' m → News g L h' ((LE, W.listOf (es : List Value).toArray ne) :: (L + 1 + 1 + 1 + 1 + 1 + 1, o6') :: fz) → o6'.data = .cell (some (.ref LE)) → StrsAre es (cs.map letF) → (∀ p ∈ (L + 1 + 1 + 1 + 1 + 1 + 1, o6) :: fz, @LT.lt Nat _ p.1 LE) →
      wpAny (model prog w) (callerA.deeper (envOfC qual scope L fa cd)) (execs rest (envOfC qual scope L fa cd)) Q E { s with heap := h', toks := tk' }), wpAny (model prog w) (callerA.deeper (envOfC qual scope L fa cd)) (execs (st :: rest) (envOfC qual scope L fa cd)) Q E s
abbrev T9 : Type := (((((Program × World) × (List Str)) × (((ExcName → Option Value) × (Str → Option Value)) × (Str → Option Value))) × ((((List Stmt) × Addr) × Addr) × (Addr × Value))) × ((((Heap × Shared) × (Str → Option Value)) × ((Flow → Shared → Prop) × (Value → Shared → Prop))) × (((Obj × Led) × Nat) × ((List Value) × (List Nat)))))
def U9 (t : T9) : Prop := Claim9 t.1.1.1.1.1 t.1.1.1.1.2 t.1.1.1.2 t.1.1.2.1.1 t.1.1.2.1.2 t.1.1.2.2 t.1.2.1.1.1 t.1.2.1.1.2 t.1.2.1.2 t.1.2.2.1 t.1.2.2.2 t.2.1.1.1.1 t.2.1.1.1.2 t.2.1.1.2 t.2.1.2.1 t.2.1.2.2 t.2.2.1.1.1 t.2.2.1.1.2 t.2.2.1.2 t.2.2.2.1 t.2.2.2.2
@[irreducible] def v9 : T9 := ch9 (by k_extra "NE") U9
theorem spec9 : U9 v9 → ∀ t, U9 t := by with_unfolding_all exact sp9 _ U9
theorem core9 : U9 v9 := by
  refine (let prog := v9.1.1.1.1.1; let w := v9.1.1.1.1.2; let loose := v9.1.1.1.2; let mean := v9.1.1.2.1.1; let mg := v9.1.1.2.1.2; let mb := v9.1.1.2.2; let rest := v9.1.2.1.1.1; let fa := v9.1.2.1.1.2; let L := v9.1.2.1.2; let TW := v9.1.2.2.1; let cd := v9.1.2.2.2; let g := v9.2.1.1.1.1; let s := v9.2.1.1.1.2; let m := v9.2.1.1.2; let Q := v9.2.1.2.1; let E := v9.2.1.2.2; let o6 := v9.2.2.1.1.1; let fz := v9.2.2.1.1.2; let nt := v9.2.2.1.2; let lv := v9.2.2.2.1; let cs := v9.2.2.2.2; (?_ : Claim9 prog w loose mean mg mb rest fa L TW cd g s m Q E o6 fz nt lv cs))
  clear_value prog w loose mean mg mb rest fa L TW cd g s m Q E o6 fz nt lv cs
  intro qual scope body st H hst B F X T N h6 d6 hm hTW hlv hcl ret
  revert ret
  refine law_cc (ε := envOfC qual scope L fa cd) rfl rfl H hst rfl ?_
  clear H hst
  intro ret
  have hll := hlv.length
  have F1 := fr_know F hm
  clear F
  (try dsimp only)
  k_extra "TOLC"
  refine lc_list (vs := lv) (ax := TW) (c := nt) (Dr := fun d => d = s.drawn) (fun i ys led => led = (L + 1 + 1 + 1 + 1 + 1 + 1, o6) :: fz ∧ StrsAre ys ((cs.take i).map letF)) ?hh ?hcell ?hkind ?hx F1 N (.tail _ hTW) ?hn ?hD ?hJ ?turn ?fin
  case hh => rfl
  case hcell => decide
  case hkind => rfl
  case hx => rfl
  case hn => omega
  case hD => rfl
  case hJ => exact ⟨rfl, .nil⟩
  case turn =>
    intro i v ys led I oI C oC D2 m₂ h tk dr E' hv hi hdr hyl hC hx F2 N2 off hne hlt2 hIl hS hJ
    k_extra "g"
    obtain ⟨rfl, hys⟩ := hJ
    subst hdr
    clear hS N
    refine ex_1 (light_at hlv i v hv) fun cl0 k_ => and_3 k_ fun hcl0 hcl6 k_ => ex_5 k_ fun lx v0 v1 v2 nx k_ => and_2 k_ fun r1_ hmx => ?_
    repeat clear k_
    subst r1_
    k_extra "h"
    clear hne hlt2 hIl
    (first | (refine opq_turn ?_; intro QT9 hT9) | (refine opq_V ?_; intro QT9 hT9))
    k_extra "STEPSD"
    rename News g L _ _ => NB
    rename Fr g L _ _ => FB
    refine exI_4 _ _ _ _ ⟨rfl, rfl, FB, NB, off, ⟨nt, .tail _ hTW⟩, rfl, ?_⟩
    rw [take_next hcl0, List.map_append]
    exact strs_app hys
  case fin =>
    intro D2 h tk dr ys led hbl hdr hyl F2 N2 hne hS hJ
    k_extra "g"
    obtain ⟨rfl, hys⟩ := hJ
    k_extra "h"
    subst hdr
    clear hS N
    rw [hll, List.take_length] at hys
    have q6 : @LT.lt Nat _ (L + 1 + 1 + 1 + 1 + 1 + 1) D2 := hbl _ (.head _)
    k_extra "STEPSD"
    rename News g L _ _ => NB
    rename Fr g L _ _ => FB
    exact ret D2 ys _ _ _ _ (fr_unknow FB hm) NB (by assumption) hys hbl
end
end seg13
theorem seg13 {qual scope body st} (H : LawAt w qual scope body) (hst : body[13]? = some st) {rest : List Stmt} {fa L TW : Addr} {cd : Value} {g : Heap} {s : Shared} {m : Str → Option Value} {Q : Flow → Shared → Prop} {E : Value → Shared → Prop} {o6 : Obj} {fz : Led} {nt : Nat} {lv : List Value} {cs : List Nat}
    (B : Below callerA g [] g) (F : Fr g L s.heap m) (X : (kf.heap_1 w.params).In g) (T : Top topProg loose mean mg mb g)
    (N : News g L s.heap ((L + 1 + 1 + 1 + 1 + 1 + 1, o6) :: fz)) (h6 : AllNe (L + 1 + 1 + 1 + 1 + 1 + 1) fz) (d6 : o6.data = .cell none)
    (hm : m (Str.ofString "twice") = some (.ref TW)) (hTW : (TW, W.listOf lv.toArray nt) ∈ fz) (hlv : PySem.Paired (LightAt fz) lv cs) (hcl : cs.length ≤ 6)
    (ret : ∀ LE es ne o6' h' tk', Fr g L h' m → News g L h' ((LE, W.listOf (es : List Value).toArray ne) :: (L + 1 + 1 + 1 + 1 + 1 + 1, o6') :: fz) → o6'.data = .cell (some (.ref LE)) → StrsAre es (cs.map letF) → (∀ p ∈ (L + 1 + 1 + 1 + 1 + 1 + 1, o6) :: fz, @LT.lt Nat _ p.1 LE) →
      wpAny (model prog w) (callerA.deeper (envOfC qual scope L fa cd)) (execs rest (envOfC qual scope L fa cd)) Q E { s with heap := h', toks := tk' }) :
    wpAny (model prog w) (callerA.deeper (envOfC qual scope L fa cd)) (execs (st :: rest) (envOfC qual scope L fa cd)) Q E s := ((seg13.spec9 seg13.core9 (((((prog, w), loose), ((mean, mg), mb)), (((rest, fa), L), (TW, cd))), ((((g, s), m), (Q, E)), (((o6, fz), nt), (lv, cs)))) : seg13.Claim9 prog w loose mean mg mb rest fa L TW cd g s m Q E o6 fz nt lv cs)) qual scope body st H hst B F X T N h6 d6 hm hTW hlv hcl ret
end
end
section
open L_P
section
variable (prog : Program) (w : World) (loose : List Str) (mean : ExcName → Option Value) (mg mb : Str → Option Value)
namespace subst_con
noncomputable section
def Claim9 (prog : Program) (w : World) (loose : List Str) (mean : ExcName → Option Value) (mg mb : Str → Option Value) (x y : Str) (t u : Tok) : Prop := ∀ (hx : x.length = 1) (hy : y.length = 1), Con prog w loose mean mg mb 350 200 21 [.str x t, .str y u] [] [] (fun r mu' nw => mu' = [] ∧ nw = [] ∧ ∃ tk, r = .int (if x = y then 0 else if Txt.lower x = Txt.lower y then 1 else 2) tk)
abbrev T9 : Type := ((((Program × World) × (List Str)) × ((ExcName → Option Value) × (Str → Option Value))) × ((((Str → Option Value) × Str) × Str) × (Tok × Tok)))
def U9 (t : T9) : Prop := Claim9 t.1.1.1.1 t.1.1.1.2 t.1.1.2 t.1.2.1 t.1.2.2 t.2.1.1.1 t.2.1.1.2 t.2.1.2 t.2.2.1 t.2.2.2
@[irreducible] def v9 : T9 := ch9 (by k_extra "NE") U9
theorem spec9 : U9 v9 → ∀ t, U9 t := by with_unfolding_all exact sp9 _ U9
theorem core9 : U9 v9 := by
  refine (let prog := v9.1.1.1.1; let w := v9.1.1.1.2; let loose := v9.1.1.2; let mean := v9.1.2.1; let mg := v9.1.2.2; let mb := v9.2.1.1.1; let x := v9.2.1.1.2; let y := v9.2.1.2; let t := v9.2.2.1; let u := v9.2.2.2; (?_ : Claim9 prog w loose mean mg mb x y t u))
  clear_value prog w loose mean mg mb x y t u
  intro hx hy
  k_extra "CON"
  k_extra "STEPSD"
  all_goals k_extra "LV"
  all_goals (refine ⟨[], [], ⟨rfl, rfl, ?_⟩, by simp, by simp, by simp, by simp⟩)
  all_goals simp_all
end
end subst_con
theorem subst_con (x y : Str) (t u : Tok) (hx : x.length = 1) (hy : y.length = 1) : Con prog w loose mean mg mb 350 200 21 [.str x t, .str y u] [] [] (fun r mu' nw => mu' = [] ∧ nw = [] ∧ ∃ tk, r = .int (if x = y then 0 else if Txt.lower x = Txt.lower y then 1 else 2) tk) := ((subst_con.spec9 subst_con.core9 ((((prog, w), loose), (mean, mg)), (((mb, x), y), (t, u))) : subst_con.Claim9 prog w loose mean mg mb x y t u)) hx hy
end
end
section
theorem L_T_LWE.ln9_T_LWE : True := trivial
open L_P L_R L_T2 L_L L_X L_Y L_N L_T_LWE
section
variable (prog : Program) (w : World) (loose : List Str) (mean : ExcName → Option Value) (mg mb : Str → Option Value)
noncomputable def costF (c j : Nat) : Int := if letF c = letF j then 0 else if Txt.lower (letF c) = Txt.lower (letF j) then 1 else 2
section
variable {prog : Program} {w : World} {loose : List Str} {mean : ExcName → Option Value} {mg mb : Str → Option Value} {dp un : Nat} {big : Led}
  {gd : Option (List Code)} {cn : Str} {cs : Scope} {a : Addr} {ccd : Value} {cl : List (Str × Addr)} {outer : List Env} {A₀ : Around} {base h₀ : Heap} {L l : Addr} {m : Str → Option Value} {s : Shared} {Q E : Value → Shared → Prop}
theorem subst_u {x y : Str} {t u : Tok} (hx : x.length = 1) (hy : y.length = 1) (hdp : dp ≤ 350) (hu : un ≤ 200) (B : Below A₀ base outer h₀) (F : Fr h₀ L s.heap m) (X : (kf.heap_1 w.params).In h₀) (N : News h₀ L s.heap big) (T : Top topProg loose mean mg mb h₀) (hk : cs.kind = .function)
    (ret : ∀ t' h' tk', Fr h₀ L h' m → News h₀ L h' big → Q (.int (if x = y then 0 else if Txt.lower x = Txt.lower y then 1 else 2) t') { s with heap := h', toks := tk' }) :
    wpAny (model prog w) (ktrTop dp un gd cn cs L a ccd cl outer) (call (.ref 21) [.str x t, .str y u]) Q E s := by
  refine wpAny_call <| con_use0 (subst_con prog w loose mean mg mb x y t u hx hy) hdp hu B F X N T hk (fun _ h => nomatch h) fun r mu' nw h' tk' F' N' hR hn => ?_
  k_extra "g"
  obtain ⟨_, rfl, t', rfl⟩ := hR
  k_extra "h"
  (repeat walk_at "LEAVE9")
  exact ret t' h' tk' F' N'
theorem get_P {A : Around} {vs : List Value} {ts : Led} {xs vsn : List Int} {uu pp xx : Int} {n : Nat} {i : Int} {k : Nat} {u : Tok} {value slice : PySem.Expr} (N : News h₀ L s.heap big) (hl : (l, W.listOf vs.toArray n) ∈ big) (hP : PySem.Paired (fun z v => PlaceAt ts xs uu pp ((xx * v).fmod pp) z) vs vsn) (hi : i = (k : Int)) (hk : k < vs.length) (hk2 : k ≤ 100)
    (h : ∀ T t1 t2 k' j v, vsn[k]? = some v → (T, tup2 ((k' : Nat) : Int) ((j : Nat) : Int) t1 t2) ∈ ts → At xs uu pp ((xx * v).fmod pp) k' j → j < 6 → Q (.ref T) s)
    (hs : subscripted slice false (.ref l) (.int i u) = operate [.ref l, .int i u] (getItem (.ref l) (.int i u)) := by with_unfolding_all rfl) : wpAny (model prog w) A (subscriptTail value slice (.ref l) (.int i u)) Q E s := by
  have e : vs[k]? = some vs[k] := List.getElem?_eq_getElem hk
  k_extra "g"
  refine ex_1 (paired_get hP k _ e) fun v k_ => and_2 k_ fun hv k_ => ex_5 k_ fun T t1 t2 k' j k_ => and_3 k_ fun hy hm hA => ?_
  repeat clear k_
  k_extra "h"
  refine get_A N hl hi hk2 e ?_ hs
  rw [hy]
  exact h T t1 t2 k' j v hv hm hA hA.2.1
end
theorem let_len (c : Nat) : (letF c).length = 1 := rfl
theorem kw9_LWE_2 : True := by
  (k_with "lT_LWE" => fail_if_success (fail_if_success (have h9 := ln9_T_LWE)))
  (k_with "call ref" => (k_extra "lT_LWE"; (k_here; (with_reducible show wpAny _ _ (call (Value.ref 21) _) _ _ _); k_dflt (refine' subst_u ?hx ?hy (Nat.le_of_ble_eq_true rfl) (Nat.le_of_ble_eq_true rfl) ?k1 ?k2 ?k3 ?k4 ?k5 ?k6 ?_; (case k4 => k_asm); k_extra "K6"; (case hx => first | exact rfl | with_reducible assumption); (case hy => first | exact rfl | with_reducible assumption); k_whole); intros; (try k_sweep))))
  (k_with "subscriptTail Name Name ref int" => (k_extra "lT_LWE"; (k_here; (with_reducible show wpAny _ _ (subscriptTail _ _ (Value.ref _) (Value.int _ _)) _ _ _); k_dflt (refine' get_P ?N ?hl ?hP ?hi ?hk ?hk2 ?_ ?hs; (case N => k_asm); (case hP => with_reducible assumption); (case hl => k_mem); (case hi => exact (Int.toNat_of_nonneg (by omega)).symm); (case hk => omega); (case hk2 => omega); (case hs => with_unfolding_all rfl); k_whole); intro _ _ _ _ _ _ _ _ _ _)))
  trivial
theorem zip_nextG {α β γ : Type} (f : α → β → γ) {cs : List α} {ks : List β} {c : α} {k : β} {i : Nat} (hi : ks.length = i) (hc : cs[i]? = some c) : List.zipWith f (cs.take (i + 1)) (ks ++ [k]) = List.zipWith f (cs.take i) ks ++ [f c k] := by
  subst hi
  have hl : ks.length < cs.length := by
    by_cases q : ks.length < cs.length
    · exact q
    · rw [List.getElem?_eq_none (by omega)] at hc; cases hc
  rw [take_next hc, List.zipWith_append (by rw [List.length_take]; omega)]
  rfl
namespace seg14
noncomputable section
def Claim9 (prog : Program) (w : World) (loose : List Str) (mean : ExcName → Option Value) (mg mb : Str → Option Value) (rest : List Stmt) (fa L RW LE : Addr) (cd : Value) (g : Heap) (s : Shared) (m : Str → Option Value) (Q : Flow → Shared → Prop) (E : Value → Shared → Prop) (o6 o7 : Obj) (fz : Led) (nr ne : Nat) (pp uu pr : Int) (rv es : List Value) (ps : List Int) (cs : List Nat) : Prop := ∀ qual scope body st (H : LawAt w qual scope body) (hst : body[14]? = some st) (B : Below callerA g [] g) (F : Fr g L s.heap m) (X : (kf.heap_1 w.params).In g) (T : Top topProg loose mean mg mb g) (N : News g L s.heap ((LE, W.listOf es.toArray ne) :: (L + 1 + 1 + 1 + 1 + 1 + 1 + 1, o7) :: (L + 1 + 1 + 1 + 1 + 1 + 1, o6) :: fz)) (h7 : AllNe (L + 1 + 1 + 1 + 1 + 1 + 1 + 1) fz) (d6 : o6.data = .cell (some (.ref LE))) (hm : m (Str.ofString "rows") = some (.ref RW)) (hRW : (RW, W.listOf rv.toArray nr) ∈ fz) (hrv : PySem.Paired (fun y b => RowAt fz ps uu pp (pr * b) y) rv [1, -1, uu]) (hes : StrsAre es (cs.map letF)) (hcl : cs.length = ps.length) (hpl : ps.length ≤ 6) (hcost : ∀ (i : Nat) (b : Int), ([1, -1, uu] : List Int)[i]? = some b → ∀ jl : List Nat, PySem.Paired (fun j v => ∃ k : Nat, At ps uu pp ((pr * b * v).fmod pp) k j) jl ps → List.zipWith costF cs jl = List.replicate ps.length (i : Int)) (ret : ∀ CO cv nc fz' h' tk', Fr g L h' (fun y => if y = Str.ofString "costs" then some (.ref CO) else m y) → News g L h' ((LE, W.listOf es.toArray ne) :: (L + 1 + 1 + 1 + 1 + 1 + 1 + 1, o7) :: (L + 1 + 1 + 1 + 1 + 1 + 1, o6) :: fz') → (∀ p ∈ fz, p ∈ fz') → AllNe (L + 1 + 1 + 1 + 1 + 1 + 1 + 1) fz' →
      (CO, W.listOf (cv : List Value).toArray nc) ∈ fz' → PySem.Paired (fun y (i : Nat) => ∃ D zs n, y = .ref D ∧ (D, W.listOf (zs : List Value).toArray n) ∈ fz' ∧ IntsAre zs (List.replicate ps.length (i : Int))) cv (List.range 3) →
      wpAny (model prog w) (callerA.deeper (envOfC qual scope L fa cd)) (execs rest (envOfC qual scope L fa cd)) Q E { s with heap := h', toks := tk' }), wpAny (model prog w) (callerA.deeper (envOfC qual scope L fa cd)) (execs (st :: rest) (envOfC qual scope L fa cd)) Q E s
abbrev T9 : Type := (((((Program × World) × ((List Str) × (ExcName → Option Value))) × (((Str → Option Value) × (Str → Option Value)) × ((List Stmt) × Addr))) × (((Addr × Addr) × (Addr × Value)) × ((Heap × Shared) × (Str → Option Value)))) × (((((Flow → Shared → Prop) × (Value → Shared → Prop)) × (Obj × Obj)) × ((Led × Nat) × Nat)) × (((Int × Int) × (Int × (List Value))) × (((List Value) × (List Int)) × (List Nat)))))
def U9 (t : T9) : Prop := Claim9 t.1.1.1.1.1 t.1.1.1.1.2 t.1.1.1.2.1 t.1.1.1.2.2 t.1.1.2.1.1 t.1.1.2.1.2 t.1.1.2.2.1 t.1.1.2.2.2 t.1.2.1.1.1 t.1.2.1.1.2 t.1.2.1.2.1 t.1.2.1.2.2 t.1.2.2.1.1 t.1.2.2.1.2 t.1.2.2.2 t.2.1.1.1.1 t.2.1.1.1.2 t.2.1.1.2.1 t.2.1.1.2.2 t.2.1.2.1.1 t.2.1.2.1.2 t.2.1.2.2 t.2.2.1.1.1 t.2.2.1.1.2 t.2.2.1.2.1 t.2.2.1.2.2 t.2.2.2.1.1 t.2.2.2.1.2 t.2.2.2.2
@[irreducible] def v9 : T9 := ch9 (by k_extra "NE") U9
theorem spec9 : U9 v9 → ∀ t, U9 t := by with_unfolding_all exact sp9 _ U9
theorem core9 : U9 v9 := by
  refine (let prog := v9.1.1.1.1.1; let w := v9.1.1.1.1.2; let loose := v9.1.1.1.2.1; let mean := v9.1.1.1.2.2; let mg := v9.1.1.2.1.1; let mb := v9.1.1.2.1.2; let rest := v9.1.1.2.2.1; let fa := v9.1.1.2.2.2; let L := v9.1.2.1.1.1; let RW := v9.1.2.1.1.2; let LE := v9.1.2.1.2.1; let cd := v9.1.2.1.2.2; let g := v9.1.2.2.1.1; let s := v9.1.2.2.1.2; let m := v9.1.2.2.2; let Q := v9.2.1.1.1.1; let E := v9.2.1.1.1.2; let o6 := v9.2.1.1.2.1; let o7 := v9.2.1.1.2.2; let fz := v9.2.1.2.1.1; let nr := v9.2.1.2.1.2; let ne := v9.2.1.2.2; let pp := v9.2.2.1.1.1; let uu := v9.2.2.1.1.2; let pr := v9.2.2.1.2.1; let rv := v9.2.2.1.2.2; let es := v9.2.2.2.1.1; let ps := v9.2.2.2.1.2; let cs := v9.2.2.2.2; (?_ : Claim9 prog w loose mean mg mb rest fa L RW LE cd g s m Q E o6 o7 fz nr ne pp uu pr rv es ps cs))
  clear_value prog w loose mean mg mb rest fa L RW LE cd g s m Q E o6 o7 fz nr ne pp uu pr rv es ps cs
  intro qual scope body st H hst B F X T N h7 d6 hm hRW hrv hes hcl hpl hcost ret
  revert ret
  refine law_cc (ε := envOfC qual scope L fa cd) rfl rfl H hst rfl ?_
  clear H hst
  intro ret
  have hrl := hrv.length
  have hesl := strs_len hes
  rw [List.length_map] at hesl
  have F1 := fr_know F hm
  clear F
  (try dsimp only)
  k_extra "TOLC"
  refine lc_listAX (gs := ?gs) (vs := rv) (ax := RW) (c := nr) (Dr := fun d => d = s.drawn) (fun i ys led => ∃ rs, led = (LE, W.listOf es.toArray ne) :: (L + 1 + 1 + 1 + 1 + 1 + 1 + 1, o7) :: (L + 1 + 1 + 1 + 1 + 1 + 1, o6) :: (rs ++ fz) ∧ PySem.Paired (fun y (i : Nat) => ∃ D zs n, y = .ref D ∧ (D, W.listOf (zs : List Value).toArray n) ∈ rs ++ fz ∧ IntsAre zs (List.replicate ps.length (i : Int))) ys (List.range i) ∧ AllNe (L + 1 + 1 + 1 + 1 + 1 + 1 + 1) rs) ?hh ?hnm ?hgs ?hx0 ?hkind F1 N (.tail _ (.tail _ (.tail _ hRW))) ?hn ?hD ?hJ ?turn ?fin
  case hh => rfl
  case hnm => rfl
  case hgs => decide
  case hx0 => decide
  case hkind => rfl
  case hn => rw [hrl]; exact Nat.le_of_ble_eq_true rfl
  case hD => rfl
  case hJ => exact ⟨[], rfl, .nil, trivial⟩
  case turn =>
    intro i v ys led I oI C oC D2 X1 oX m₂ h tk dr E' hv hi hdr hyl hC hx F2 N2 off hXl hXg hne hlt2 hIl hS hJ
    k_extra "g"
    obtain ⟨rs, rfl, hys, hr7⟩ := hJ
    subst hdr
    clear hS N
    k_extra "g"
    refine ex_1 (paired_get hrv i v hv) fun b k_ => and_2 k_ fun hb k_ => ex_3 k_ fun R1 zs nz k_ => and_3 k_ fun r1_ hR1 hzs => ?_
    repeat clear k_
    subst r1_
    k_extra "h"
    k_extra "h"
    have hzl := hzs.length
    replace hzs := paired_mono hzs fun _ _ q => q.mono (ts' := rs ++ fz) fun q hq => List.mem_append.mpr (.inr hq)
    have hR1m : (R1, W.listOf zs.toArray nz) ∈ rs ++ fz := List.mem_append.mpr (.inr hR1)
    (first | (refine opq_turn ?_; intro QT9 hT9) | (refine opq_V ?_; intro QT9 hT9))
    k_extra "TOLC"
    rename News g L _ _ => NR
    rename Fr g L _ _ => FR
    rename (@LT.lt Nat _ I _ ∧ _) => lR
    rename_i t9 k9 R2 r1 r2 hR tkR
    refine lc_range (n := es.length) (R := R2) (Dr := fun d => d = s.drawn) (fun j zs2 led => led = (R2, rngObj 0 es.length r1 t9 r2) :: (I, oI) :: (C, oC) :: (D2, LCg.lst ys) :: (X1, oX) :: (LE, W.listOf es.toArray ne) :: (L + 1 + 1 + 1 + 1 + 1 + 1 + 1, o7) :: (L + 1 + 1 + 1 + 1 + 1 + 1, o6) :: (rs ++ fz) ∧ ∃ jl : List Nat, IntsAre zs2 (List.zipWith costF (cs.take j) jl) ∧ PySem.Paired (fun j v => ∃ k : Nat, At ps uu pp ((pr * b * v).fmod pp) k j) jl (ps.take j)) ?hh2 ?hcell2 ?hkind2 ?hx2 FR NR (.head _) ?hab2 ?hn2 ?ha2 ?hD2 ?hJ2 ?turn2 ?fin2
    case hh2 => rfl
    case hcell2 => decide
    case hkind2 => rfl
    case hx2 => rfl
    case hab2 => omega
    case hn2 => omega
    case ha2 => decide
    case hD2 => rfl
    case hJ2 => exact ⟨rfl, [], .nil, .nil⟩
    case turn2 =>
      intro j tj zs2 led I2 oI2 C2 oC2 D3 m₃ h tk dr E2 hj hdr hyl2 hC2 hx2 F3 N3 off2 hne3 hlt3 hIl3 hJ
      k_extra "g"
      obtain ⟨rfl, jl, hzs2, hjl⟩ := hJ
      subst hdr
      have hj0 : (0 : Int) + (j : Int) = (j : Int) := Int.zero_add _
      rw [hj0] at hx2
      have hjc : j < cs.length := by omega
      have hjp : j < ps.length := by omega
      clear hne3 hlt3 hIl3 NR hIl hne hlt2
      obtain ⟨cj, hcj⟩ : ∃ cj, cs[j]? = some cj := ⟨_, List.getElem?_eq_getElem hjc⟩
      k_extra "h"
      have hlc : (cs.map letF).getD ((j : Nat) : Int).toNat (Str.ofString "") = letF cj := by
        rw [Int.toNat_natCast, List.getD_eq_getElem?_getD, List.getElem?_map, hcj]
        rfl
      have hlj : ((cs.map letF).getD ((j : Nat) : Int).toNat (Str.ofString "")).length = 1 := by rw [hlc]; rfl
      (first | (refine opq_turn ?_; intro QT9 hT9) | (refine opq_V ?_; intro QT9 hT9))
      k_extra "STEPSD"
      rename News g L _ _ => NB
      rename Fr g L _ _ => FB
      rename (ps[((j : Nat) : Int).toNat]? = some _) => hv9
      rename At _ _ _ _ _ _ => hA9
      have hjll := hjl.length
      rw [List.length_take] at hjll
      (repeat walk_at "LEAVE9")
      refine exI_4 _ _ _ _ ⟨rfl, rfl, FB, NB, off2, trivial, rfl, jl ++ [_], ?_, paired_snoc_take hjl hv9 ⟨_, hA9⟩⟩
      rw [zip_nextG costF (by omega) hcj]
      rw [hlc]
      exact ints_app hzs2
    case fin2 =>
      intro D3 h tk dr zs2 led hbl3 hdr hyl2 F3 N3 hne3 hJ
      k_extra "g"
      obtain ⟨rfl, jl, hzs2, hjl⟩ := hJ
      k_extra "h"
      subst hdr
      rw [List.take_of_length_le (by omega)] at hzs2 hjl
      rw [hcost i b hb jl hjl] at hzs2
      have b1 : @LT.lt Nat _ I D3 := hbl3 _ (.tail _ (.head _))
      have b2 : @LT.lt Nat _ C D3 := hbl3 _ (.tail _ (.tail _ (.head _)))
      have b3 : @LT.lt Nat _ D2 D3 := hbl3 _ (.tail _ (.tail _ (.tail _ (.head _))))
      have b4 : @LT.lt Nat _ X1 D3 := hbl3 _ (.tail _ (.tail _ (.tail _ (.tail _ (.head _)))))
      have b7 : @LT.lt Nat _ (L + 1 + 1 + 1 + 1 + 1 + 1 + 1) D3 := hbl3 _ (.tail _ (.tail _ (.tail _ (.tail _ (.tail _ (.tail _ (.head _)))))))
      (repeat walk_at "LEAVE9")
      refine exI_6 _ _ _ ((LE, W.listOf es.toArray ne) :: (L + 1 + 1 + 1 + 1 + 1 + 1 + 1, o7) :: (L + 1 + 1 + 1 + 1 + 1 + 1, o6) :: (((D3, LCg.lst zs2) :: rs) ++ fz)) oX _ ⟨rfl, rfl, F3, ?nn, hx, ⟨hXl.1, hXl.2.1, hXl.2.2.1, Nat.ne_of_gt b4, hXl.2.2.2⟩, ⟨off.2.1, off.2.2.1, off.2.2.2.1, ⟨Nat.ne_of_gt b1, Nat.ne_of_gt b2, Nat.ne_of_gt b3⟩, off.2.2.2.2⟩, ⟨nr, .tail _ (.tail _ (.tail _ (.tail _ (List.mem_append.mpr (.inr hRW)))))⟩, (D3, LCg.lst zs2) :: rs, rfl, ?pp, ⟨Nat.ne_of_gt b7, hr7⟩⟩
      case nn =>
        have NB := N3
        k_extra "NWS"
      case pp =>
        rw [List.range_succ]
        exact (paired_mono hys fun _ _ q => by
          k_extra "g"
          obtain ⟨D, zs, n, h1, h2, h3⟩ := q
          k_extra "h"
          exact ⟨D, zs, n, h1, .tail _ h2, h3⟩).snoc ⟨D3, zs2, _, rfl, .head _, hzs2⟩
  case fin =>
    intro D2 C oC m₂ h tk dr ys led hbl2 hdr hyl hC F2 N2 p1 p2 p3 hS hJ
    clear hS
    k_extra "g"
    obtain ⟨rs, rfl, hys, hr7⟩ := hJ
    k_extra "h"
    subst hdr
    rw [hrl, show ([1, -1, uu] : List Int).length = 3 from rfl] at hys
    have q7 : @LT.lt Nat _ (L + 1 + 1 + 1 + 1 + 1 + 1 + 1) D2 := hbl2 _ (.tail _ (.head _))
    clear hbl2
    k_extra "STEPSD"
    rename News g L _ _ => NB
    refine lgone_intro hC (by assumption) NB (by repeat' (first | exact .head _ | apply List.Mem.tail)) (led := (D2, LCg.lst ys) :: _) (fun p hp => by
      k_extra "g"
      rcases List.mem_cons.mp hp with rfl | hp <;> k_extra "h"
      · exact .head _
      · exact .tail _ (.tail _ hp)) ?ne2 ?go2
    case ne2 =>
      show AllNe C _
      exact ⟨fun e => p3 e.symm, p2⟩
    case go2 =>
      intro h' F' N'
      have NB := N'
      (repeat walk_at "LEAVE9")
      refine ret D2 ys _ ((D2, LCg.lst ys) :: (rs ++ fz)) _ _ (fr_unknow2 F' hm) ?nn (fun q hq => .tail _ (List.mem_append.mpr (.inr hq))) ⟨Nat.ne_of_gt q7, allNe_app hr7 h7⟩ (.head _) (paired_mono hys fun _ _ q => ?_)
      case nn => k_extra "NWS"
      k_extra "g"
      obtain ⟨D, zs, n, h1, h2, h3⟩ := q
      k_extra "h"
      exact ⟨D, zs, n, h1, .tail _ h2, h3⟩
end
end seg14
theorem seg14 {qual scope body st} (H : LawAt w qual scope body) (hst : body[14]? = some st) {rest : List Stmt} {fa L RW LE : Addr} {cd : Value} {g : Heap} {s : Shared} {m : Str → Option Value} {Q : Flow → Shared → Prop} {E : Value → Shared → Prop} {o6 o7 : Obj} {fz : Led} {nr ne : Nat} {pp uu pr : Int} {rv es : List Value} {ps : List Int} {cs : List Nat}
    (B : Below callerA g [] g) (F : Fr g L s.heap m) (X : (kf.heap_1 w.params).In g) (T : Top topProg loose mean mg mb g)
    (N : News g L s.heap ((LE, W.listOf es.toArray ne) :: (L + 1 + 1 + 1 + 1 + 1 + 1 + 1, o7) :: (L + 1 + 1 + 1 + 1 + 1 + 1, o6) :: fz)) (h7 : AllNe (L + 1 + 1 + 1 + 1 + 1 + 1 + 1) fz) (d6 : o6.data = .cell (some (.ref LE)))
    (hm : m (Str.ofString "rows") = some (.ref RW)) (hRW : (RW, W.listOf rv.toArray nr) ∈ fz) (hrv : PySem.Paired (fun y b => RowAt fz ps uu pp (pr * b) y) rv [1, -1, uu])
    (hes : StrsAre es (cs.map letF)) (hcl : cs.length = ps.length) (hpl : ps.length ≤ 6)
    (hcost : ∀ (i : Nat) (b : Int), ([1, -1, uu] : List Int)[i]? = some b → ∀ jl : List Nat, PySem.Paired (fun j v => ∃ k : Nat, At ps uu pp ((pr * b * v).fmod pp) k j) jl ps → List.zipWith costF cs jl = List.replicate ps.length (i : Int))
    (ret : ∀ CO cv nc fz' h' tk', Fr g L h' (fun y => if y = Str.ofString "costs" then some (.ref CO) else m y) → News g L h' ((LE, W.listOf es.toArray ne) :: (L + 1 + 1 + 1 + 1 + 1 + 1 + 1, o7) :: (L + 1 + 1 + 1 + 1 + 1 + 1, o6) :: fz') → (∀ p ∈ fz, p ∈ fz') → AllNe (L + 1 + 1 + 1 + 1 + 1 + 1 + 1) fz' →
      (CO, W.listOf (cv : List Value).toArray nc) ∈ fz' → PySem.Paired (fun y (i : Nat) => ∃ D zs n, y = .ref D ∧ (D, W.listOf (zs : List Value).toArray n) ∈ fz' ∧ IntsAre zs (List.replicate ps.length (i : Int))) cv (List.range 3) →
      wpAny (model prog w) (callerA.deeper (envOfC qual scope L fa cd)) (execs rest (envOfC qual scope L fa cd)) Q E { s with heap := h', toks := tk' }) :
    wpAny (model prog w) (callerA.deeper (envOfC qual scope L fa cd)) (execs (st :: rest) (envOfC qual scope L fa cd)) Q E s := ((seg14.spec9 seg14.core9 (((((prog, w), (loose, mean)), ((mg, mb), (rest, fa))), (((L, RW), (LE, cd)), ((g, s), m))), ((((Q, E), (o6, o7)), ((fz, nr), ne)), (((pp, uu), (pr, rv)), ((es, ps), cs)))) : seg14.Claim9 prog w loose mean mg mb rest fa L RW LE cd g s m Q E o6 o7 fz nr ne pp uu pr rv es ps cs)) qual scope body st H hst B F X T N h7 d6 hm hRW hrv hes hcl hpl hcost ret
end
end
section
section
variable (prog : Program) (w : World) (loose : List Str) (mean : ExcName → Option Value) (mg mb : Str → Option Value)
section
variable {prog : Program} {w : World} {A : Around} {E : Value → Shared → Prop} {s : Shared} {h₀ : Heap} {L a b : Addr} {xs ys : List Value} {news : Led} {n n2 k : Nat} {Q : Value → Shared → Prop}
def NestAt (ts : Led) (k : Nat) (y : Value) (i : Nat) : Prop := ∃ D zs n, y = .ref D ∧ (D, W.listOf (zs : List Value).toArray n) ∈ ts ∧ IntsAre zs (List.replicate k (i : Int))
theorem nest_reads {h : Heap} (N : News h₀ L h news) {cv : List Value} {is : List Nat} (hc : PySem.Paired (NestAt news k) cv is) : ∃ as, ReadsAll h cv (is.map fun (i : Nat) => PyData.list ((List.replicate k (i : Int)).map PyData.int)) as := by
  induction hc with
  | nil => exact ⟨_, .nil⟩
  | cons q _ ih =>
    k_extra "g"
    obtain ⟨as, ih⟩ := ih
    refine ex_3 q fun D zs n k_ => and_3 k_ fun r1_ hm hI => ?_
    clear k_ q
    subst r1_
    k_extra "h"
    exact ⟨_, .cons (reads_newData ⟨_, (N _ hm).1, rfl, _, rfl⟩ (ke_carried hI)) ih⟩
theorem ne_nest (N : News h₀ L s.heap news) (ha : (a, W.listOf xs.toArray n) ∈ news) (hb : (b, W.listOf ys.toArray n2) ∈ news) (hi : PySem.Paired (NestAt news k) xs (List.range 3)) (hj : PySem.Paired (NestAt news k) ys (List.range 3)) (hu : A.units + 64 < cLine) (h : Q (.bool false) s) :
    wpAny (model prog w) A (compareOp .NotEq (.ref a) (.ref b)) Q E s := by
  k_extra "g"
  obtain ⟨as, ra⟩ := nest_reads N hi
  obtain ⟨bs, rb⟩ := nest_reads N hj
  k_extra "h"
  have e : (List.range 3).map (fun (i : Nat) => PyData.list ((List.replicate k (i : Int)).map PyData.int)) = [.list ((List.replicate k 0).map PyData.int), .list ((List.replicate k 1).map PyData.int), .list ((List.replicate k 2).map PyData.int)] := rfl
  rw [e] at ra rb
  have sh : SeqAt.shaped (.list [.list ((List.replicate k 0).map PyData.int), .list ((List.replicate k 1).map PyData.int), .list ((List.replicate k 2).map PyData.int)]) = true := by
    simp only [SeqAt.shaped, PyData.canLay0, PyData.canLayAll0, PyData.depth, PyData.depthAll, ke_canLayAll0, ke_depthAll]
    decide
  refine ne_dataH (reads_list_at (N _ ha).1 rfl rfl (by simpa using ra)) (reads_list_at (N _ hb).1 rfl rfl (by simpa using rb)) sh sh hu ?_
  simp only [PyData.eqv, PyData.eqvAll, ked_eqvAll, decide_true, Bool.and_true, Bool.not_true]
  exact h
end
end
end
section
open L_P L_R L_T2 L_L L_X L_Y L_N
section
variable (prog : Program) (w : World) (loose : List Str) (mean : ExcName → Option Value) (mg mb : Str → Option Value)
namespace seg15
noncomputable section
def Claim9 (prog : Program) (w : World) (loose : List Str) (mean : ExcName → Option Value) (mg mb : Str → Option Value) (rest : List Stmt) (fa L LE CO : Addr) (cd : Value) (g : Heap) (s : Shared) (m : Str → Option Value) (Q : Flow → Shared → Prop) (E : Value → Shared → Prop) (o6 : Obj) (fz : Led) (ne nc np : Nat) (es cv : List Value) : Prop := ∀ qual scope body st (H : LawAt w qual scope body) (hst : body[15]? = some st) (B : Below callerA g [] g) (F : Fr g L s.heap m) (X : (kf.heap_1 w.params).In g) (T : Top topProg loose mean mg mb g) (N : News g L s.heap ((LE, W.listOf es.toArray ne) :: (L + 1 + 1 + 1 + 1 + 1 + 1, o6) :: fz)) (d6 : o6.data = .cell (some (.ref LE))) (hm : m (Str.ofString "costs") = some (.ref CO)) (hCO : (CO, W.listOf cv.toArray nc) ∈ fz) (hcv : PySem.Paired (NestAt fz np) cv (List.range 3)) (hel : es.length = np) (hpl : np ≤ 6) (ret : ∀ h' tk', Fr g L h' m → News g L h' ((LE, W.listOf es.toArray ne) :: (L + 1 + 1 + 1 + 1 + 1 + 1, o6) :: fz) →
      wpAny (model prog w) (callerA.deeper (envOfC qual scope L fa cd)) (execs rest (envOfC qual scope L fa cd)) Q E { s with heap := h', toks := tk' }), wpAny (model prog w) (callerA.deeper (envOfC qual scope L fa cd)) (execs (st :: rest) (envOfC qual scope L fa cd)) Q E s
abbrev T9 : Type := (((((Program × World) × (List Str)) × (((ExcName → Option Value) × (Str → Option Value)) × (Str → Option Value))) × ((((List Stmt) × Addr) × Addr) × ((Addr × Addr) × Value))) × ((((Heap × Shared) × (Str → Option Value)) × (((Flow → Shared → Prop) × (Value → Shared → Prop)) × Obj)) × (((Led × Nat) × Nat) × ((Nat × (List Value)) × (List Value)))))
def U9 (t : T9) : Prop := Claim9 t.1.1.1.1.1 t.1.1.1.1.2 t.1.1.1.2 t.1.1.2.1.1 t.1.1.2.1.2 t.1.1.2.2 t.1.2.1.1.1 t.1.2.1.1.2 t.1.2.1.2 t.1.2.2.1.1 t.1.2.2.1.2 t.1.2.2.2 t.2.1.1.1.1 t.2.1.1.1.2 t.2.1.1.2 t.2.1.2.1.1 t.2.1.2.1.2 t.2.1.2.2 t.2.2.1.1.1 t.2.2.1.1.2 t.2.2.1.2 t.2.2.2.1.1 t.2.2.2.1.2 t.2.2.2.2
@[irreducible] def v9 : T9 := ch9 (by k_extra "NE") U9
theorem spec9 : U9 v9 → ∀ t, U9 t := by with_unfolding_all exact sp9 _ U9
theorem core9 : U9 v9 := by
  refine (let prog := v9.1.1.1.1.1; let w := v9.1.1.1.1.2; let loose := v9.1.1.1.2; let mean := v9.1.1.2.1.1; let mg := v9.1.1.2.1.2; let mb := v9.1.1.2.2; let rest := v9.1.2.1.1.1; let fa := v9.1.2.1.1.2; let L := v9.1.2.1.2; let LE := v9.1.2.2.1.1; let CO := v9.1.2.2.1.2; let cd := v9.1.2.2.2; let g := v9.2.1.1.1.1; let s := v9.2.1.1.1.2; let m := v9.2.1.1.2; let Q := v9.2.1.2.1.1; let E := v9.2.1.2.1.2; let o6 := v9.2.1.2.2; let fz := v9.2.2.1.1.1; let ne := v9.2.2.1.1.2; let nc := v9.2.2.1.2; let np := v9.2.2.2.1.1; let es := v9.2.2.2.1.2; let cv := v9.2.2.2.2; (?_ : Claim9 prog w loose mean mg mb rest fa L LE CO cd g s m Q E o6 fz ne nc np es cv))
  clear_value prog w loose mean mg mb rest fa L LE CO cd g s m Q E o6 fz ne nc np es cv
  intro qual scope body st H hst B F X T N d6 hm hCO hcv hel hpl ret
  revert ret
  refine law_cc (ε := envOfC qual scope L fa cd) rfl rfl H hst rfl ?_
  clear H hst
  intro ret
  have F1 := fr_know F hm
  clear F
  (try dsimp only)
  k_extra "TOLC"
  rename News g L _ _ => NR
  rename Fr g L _ _ => FR
  rename (@LT.lt Nat _ LE _ ∧ _) => lR
  rename_i R2 r1 r2 hR tkR
  k_extra "g"
  obtain ⟨r9, NR⟩ : ∃ r9, News g L hR ((R2, rngObj 0 3 r1 r9 r2) :: (LE, W.listOf es.toArray ne) :: (L + 1 + 1 + 1 + 1 + 1 + 1, o6) :: fz) := ⟨_, NR⟩
  k_extra "h"
  refine lc_rangeX (gs := ?gs) (n := 3) (R := R2) (Dr := fun d => d = s.drawn) (fun i ys led => ∃ rs, led = (R2, rngObj 0 3 r1 r9 r2) :: (LE, W.listOf es.toArray ne) :: (L + 1 + 1 + 1 + 1 + 1 + 1, o6) :: (rs ++ fz) ∧ PySem.Paired (NestAt (rs ++ fz) np) ys (List.range i)) ?hh ?hnm ?hgs ?hx0 ?hkind FR NR (.head _) ?hab ?hn ?ha ?hD ?hJ ?turn ?fin
  case hh => rfl
  case hnm => rfl
  case hgs => decide
  case hx0 => decide
  case hkind => rfl
  case hab => decide
  case hn => decide
  case ha => decide
  case hD => rfl
  case hJ => exact ⟨[], rfl, .nil⟩
  case turn =>
    intro i tx ys led I oI C oC D2 X1 oX m₂ h tk dr E' hi hdr hyl hC hx F2 N2 off hXl hXg hne hlt2 hIl hJ
    k_extra "g"
    obtain ⟨rs, rfl, hys⟩ := hJ
    k_extra "h"
    subst hdr
    have hj0 : (0 : Int) + (i : Int) = (i : Int) := Int.zero_add _
    rw [hj0] at hx
    clear hIl
    (first | (refine opq_turn ?_; intro QT9 hT9) | (refine opq_V ?_; intro QT9 hT9))
    k_extra "TOLC"
    refine lc_list (vs := es) (ax := LE) (c := ne) (Dr := fun d => d = s.drawn) (fun j zs2 led => led = (I, oI) :: (C, oC) :: (D2, LCg.lst ys) :: (X1, oX) :: (R2, rngObj 0 3 r1 r9 r2) :: (LE, W.listOf es.toArray ne) :: (L + 1 + 1 + 1 + 1 + 1 + 1, o6) :: (rs ++ fz) ∧ IntsAre zs2 (List.replicate j (i : Int))) ?hh2 ?hcell2 ?hkind2 ?hx2 F2 N2 ?hl2 ?hn2 ?hD2 ?hJ2 ?turn2 ?fin2
    case hh2 => rfl
    case hcell2 => decide
    case hkind2 => rfl
    case hx2 => rfl
    case hl2 => repeat' (first | exact .head _ | apply List.Mem.tail)
    case hn2 => omega
    case hD2 => rfl
    case hJ2 => exact ⟨rfl, .nil⟩
    case turn2 =>
      intro j v zs2 led I2 oI2 C2 oC2 D3 m₃ h tk dr E2 hv hj hdr hyl2 hC2 hx2 F3 N3 off2 hne3 hlt3 hIl3 hS hJ
      k_extra "g"
      obtain ⟨rfl, hzs2⟩ := hJ
      k_extra "h"
      subst hdr
      clear hne3 hlt3 hIl3 hne hlt2 hS
      (first | (refine opq_turn ?_; intro QT9 hT9) | (refine opq_V ?_; intro QT9 hT9))
      k_extra "STEPSD"
      rename News g L _ _ => NB
      rename Fr g L _ _ => FB
      (repeat walk_at "LEAVE9")
      refine exI_4 _ _ _ _ ⟨rfl, rfl, FB, NB, off2, ⟨ne, by repeat' (first | exact .head _ | apply List.Mem.tail)⟩, rfl, ?_⟩
      rw [List.replicate_succ']
      exact ints_app hzs2
    case fin2 =>
      intro D3 h tk dr zs2 led hbl3 hdr hyl2 F3 N3 hne3 hS hJ
      k_extra "g"
      obtain ⟨rfl, hzs2⟩ := hJ
      k_extra "h"
      subst hdr
      rw [hel] at hzs2
      have b1 : @LT.lt Nat _ I D3 := hbl3 _ (.head _)
      have b2 : @LT.lt Nat _ C D3 := hbl3 _ (.tail _ (.head _))
      have b3 : @LT.lt Nat _ D2 D3 := hbl3 _ (.tail _ (.tail _ (.head _)))
      have b4 : @LT.lt Nat _ X1 D3 := hbl3 _ (.tail _ (.tail _ (.tail _ (.head _))))
      (repeat walk_at "LEAVE9")
      refine exI_6 _ _ _ ((R2, rngObj 0 3 r1 r9 r2) :: (LE, W.listOf es.toArray ne) :: (L + 1 + 1 + 1 + 1 + 1 + 1, o6) :: (((D3, LCg.lst zs2) :: rs) ++ fz)) oX _ ⟨rfl, rfl, F3, ?nn, hx, ⟨hXl.1, hXl.2.1, hXl.2.2.1, Nat.ne_of_gt b4, hXl.2.2.2⟩, ⟨off.2.1, off.2.2.1, off.2.2.2.1, ⟨Nat.ne_of_gt b1, Nat.ne_of_gt b2, Nat.ne_of_gt b3⟩, off.2.2.2.2⟩, trivial, (D3, LCg.lst zs2) :: rs, rfl, ?pp⟩
      case nn =>
        have NB := N3
        k_extra "NWS"
      case pp =>
        rw [List.range_succ]
        exact (paired_mono hys fun _ _ q => by
          k_extra "g"
          obtain ⟨D, zs, n, h1, h2, h3⟩ := q
          k_extra "h"
          exact ⟨D, zs, n, h1, .tail _ h2, h3⟩).snoc ⟨D3, zs2, _, rfl, .head _, hzs2⟩
  case fin =>
    intro D2 h tk dr ys led hbl2 hdr hyl F2 N2 hne hJ
    k_extra "g"
    obtain ⟨rs, rfl, hys⟩ := hJ
    k_extra "h"
    subst hdr
    clear hbl2
    repeat' (first | ((fail_if_success (with_reducible show wpAny _ _ (compareOp CmpOp.NotEq (Value.ref _) (Value.ref _)) _ _ _)); k_extra "STEP1"))
    k_dflt (refine' ne_nest N2 (.tail _ (.tail _ (.tail _ (.tail _ (List.mem_append.mpr (.inr hCO)))))) (.head _) (paired_mono hcv fun _ _ q => ?c1) (paired_mono hys fun _ _ q => ?c2) ?hu ?_)
    case c1 =>
      k_extra "g"
      obtain ⟨D, zs, n, h1, h2, h3⟩ := q
      k_extra "h"
      exact ⟨D, zs, n, h1, .tail _ (.tail _ (.tail _ (.tail _ (List.mem_append.mpr (.inr h2))))), h3⟩
    case c2 =>
      k_extra "g"
      obtain ⟨D, zs, n, h1, h2, h3⟩ := q
      k_extra "h"
      exact ⟨D, zs, n, h1, .tail _ (.tail _ (.tail _ (.tail _ h2))), h3⟩
    case hu => first | exact Nat.le_of_ble_eq_true rfl | units_room
    k_extra "STEPSD"
    (try dsimp only)
    have NB := N2
    refine ret _ _ (fr_unknow F2 hm) ?nn
    case nn =>
      refine news_take NB (.tail _ (.tail _ (.head _))) (news_take NB (.tail _ (.tail _ (.tail _ (.head _)))) fun p hp => NB p (.tail _ (.tail _ (.tail _ (.tail _ (List.mem_append.mpr (.inr hp)))))))
end
end seg15
theorem seg15 {qual scope body st} (H : LawAt w qual scope body) (hst : body[15]? = some st) {rest : List Stmt} {fa L LE CO : Addr} {cd : Value} {g : Heap} {s : Shared} {m : Str → Option Value} {Q : Flow → Shared → Prop} {E : Value → Shared → Prop} {o6 : Obj} {fz : Led} {ne nc np : Nat} {es cv : List Value}
    (B : Below callerA g [] g) (F : Fr g L s.heap m) (X : (kf.heap_1 w.params).In g) (T : Top topProg loose mean mg mb g)
    (N : News g L s.heap ((LE, W.listOf es.toArray ne) :: (L + 1 + 1 + 1 + 1 + 1 + 1, o6) :: fz)) (d6 : o6.data = .cell (some (.ref LE)))
    (hm : m (Str.ofString "costs") = some (.ref CO)) (hCO : (CO, W.listOf cv.toArray nc) ∈ fz) (hcv : PySem.Paired (NestAt fz np) cv (List.range 3)) (hel : es.length = np) (hpl : np ≤ 6)
    (ret : ∀ h' tk', Fr g L h' m → News g L h' ((LE, W.listOf es.toArray ne) :: (L + 1 + 1 + 1 + 1 + 1 + 1, o6) :: fz) →
      wpAny (model prog w) (callerA.deeper (envOfC qual scope L fa cd)) (execs rest (envOfC qual scope L fa cd)) Q E { s with heap := h', toks := tk' }) :
    wpAny (model prog w) (callerA.deeper (envOfC qual scope L fa cd)) (execs (st :: rest) (envOfC qual scope L fa cd)) Q E s := ((seg15.spec9 seg15.core9 (((((prog, w), loose), ((mean, mg), mb)), (((rest, fa), L), ((LE, CO), cd))), ((((g, s), m), ((Q, E), o6)), (((fz, ne), nc), ((np, es), cv)))) : seg15.Claim9 prog w loose mean mg mb rest fa L LE CO cd g s m Q E o6 fz ne nc np es cv)) qual scope body st H hst B F X T N d6 hm hCO hcv hel hpl ret
end
end
section
open L_P L_R L_T2 L_L L_X L_Y L_N
section
variable (prog : Program) (w : World) (loose : List Str) (mean : ExcName → Option Value) (mg mb : Str → Option Value)
section
variable {prog : Program} {w : World} {loose : List Str} {mean : ExcName → Option Value} {mg mb : Str → Option Value} {dp un : Nat} {big : Led}
  {gd : Option (List Code)} {cn : Str} {cs : Scope} {a : Addr} {ccd : Value} {cl : List (Str × Addr)} {outer : List Env} {A₀ : Around} {base h₀ : Heap} {L z la c c2 : Addr} {oz oc oc2 : Obj} {m : Str → Option Value} {s : Shared} {Q E : Value → Shared → Prop}
theorem tog_u {lts : List Value} {cc : List Nat} {n : Nat} {fz : Led} (hP : PySem.Paired (LightAt fz) lts cc) (hn : lts.length ≤ 6) (hla : (la, W.listOf lts.toArray n) ∈ big) (hz : ∀ p ∈ fz, p ∈ big) (hdp : dp ≤ 335) (hu : un ≤ 160) (B : Below A₀ base outer h₀) (F : Fr h₀ L s.heap m) (X : (kf.heap_1 w.params).In h₀) (N : News h₀ L s.heap big) (T : Top topProg loose mean mg mb h₀) (hk : cs.kind = .function)
    (ret : ∀ t' h' tk', Fr h₀ L h' m → News h₀ L h' big → Q (.int ((cc.sum % 6 : Nat) : Int) t') { s with heap := h', toks := tk' }) :
    wpAny (model prog w) (ktrTop dp un gd cn cs L a ccd cl outer) (call (.ref 196) [.ref la]) Q E s := by
  refine wpAny_call <| con_use0 (tog_con prog w loose mean mg mb la la (W.listOf lts.toArray n) lts cc n fz hP hn) hdp hu B F X N T hk (fun p hp => ?_) fun r mu' nw h' tk' F' N' hR hn => ?_
  · rcases List.mem_cons.mp hp with rfl | hp
    · exact hla
    · rcases List.mem_cons.mp hp with rfl | hp
      · exact hla
      · exact hz p hp
  · obtain ⟨_, rfl, t', rfl⟩ := hR
    exact ret t' h' tk' F' N'
theorem power_u {x p : Int} {n : Nat} {t u v : Tok} (hp : PrimeOk p) (hx : 0 ≤ x ∧ x ≤ 1300) (hn : n ≤ 6) (hzl : @LT.lt Nat _ 66 c2) (hl : @LE.le Nat _ c c2) (ht1 : (59, tabI2 c) ∈ big) (hc1 : (c, oc) ∈ big) (ht2 : (66, tabD2 c2) ∈ big) (hc2 : (c2, oc2) ∈ big) (ho1 : CodeAs oc QI) (ho2 : CodeAs oc2 QD) (hdp : dp ≤ 335) (hu : un ≤ 160) (B : Below A₀ base outer h₀) (F : Fr h₀ L s.heap m) (X : (kf.heap_1 w.params).In h₀) (N : News h₀ L s.heap big) (T : Top topProg loose mean mg mb h₀) (hk : cs.kind = .function)
    (ret : ∀ t' h' tk', Fr h₀ L h' m → News h₀ L h' big → Q (.int (powm x p n) t') { s with heap := h', toks := tk' }) :
    wpAny (model prog w) (ktrTop dp un gd cn cs L a ccd cl outer) (call (.ref 203) [.int x t, .int (n : Int) u, .int p v]) Q E s := by
  refine wpAny_call <| con_use0 (power_con prog w loose mean mg mb c2 c c2 oc2 oc oc2 x p n t u v hp hx hn hzl hl (Nat.le_refl _) ho1 ho2) hdp hu B F X N T hk (fun p hp => ?_) fun r mu' nw h' tk' F' N' hR hn => ?_
  · simp only [List.mem_cons, List.not_mem_nil, or_false] at hp
    k_extra "g"
    rcases hp with rfl | rfl | rfl | rfl | rfl <;> k_extra "h"
    · exact hc2
    · exact hc1
    · exact ht1
    · exact hc2
    · exact ht2
  · obtain ⟨_, rfl, t', rfl⟩ := hR
    exact ret t' h' tk' F' N'
end
theorem seg16 {qual scope body st} (H : LawAt w qual scope body) (hst : body[16]? = some st) {rest : List Stmt} {fa L TW : Addr} {cd : Value} {g : Heap} {s : Shared} {m : Str → Option Value} {Q : Flow → Shared → Prop} {E : Value → Shared → Prop} {fz : Led} {nt : Nat} {lv : List Value} {cs : List Nat}
    (B : Below callerA g [] g) (F : Fr g L s.heap m) (X : (kf.heap_1 w.params).In g) (T : Top topProg loose mean mg mb g) (N : News g L s.heap fz)
    (hm : m (Str.ofString "twice") = some (.ref TW)) (hTW : (TW, W.listOf lv.toArray nt) ∈ fz) (hlv : PySem.Paired (LightAt fz) lv cs) (hcl : cs.length ≤ 6)
    (ret : ∀ t9 h' tk', Fr g L h' (fun y => if y = Str.ofString "told" then some (.int ((cs.sum % 6 : Nat) : Int) t9) else m y) → News g L h' fz →
      wpAny (model prog w) (callerA.deeper (envOfC qual scope L fa cd)) (execs rest (envOfC qual scope L fa cd)) Q E { s with heap := h', toks := tk' }) :
    wpAny (model prog w) (callerA.deeper (envOfC qual scope L fa cd)) (execs (st :: rest) (envOfC qual scope L fa cd)) Q E s := by
  revert ret
  refine law_cc (ε := envOfC qual scope L fa cd) rfl rfl H hst rfl ?_
  clear H hst
  intro ret
  have hll := hlv.length
  have F1 := fr_know F hm
  clear F
  (try dsimp only)
  repeat' (first | ((fail_if_success (with_reducible show wpAny _ _ (call (Value.ref 196) _) _ _ _)); k_extra "STEP1"))
  k_dflt (refine' tog_u hlv ?h1 hTW (fun _ h => h) (Nat.le_of_ble_eq_true rfl) (Nat.le_of_ble_eq_true rfl) B F1 X N T rfl ?_)
  case h1 => omega
  intro t9 h' tk' F' N'
  clear N
  k_extra "STEPSD"
  rename News g L _ _ => NB
  rename Fr g L _ _ => FB
  exact ret _ _ _ (fr_unknow2 FB hm) NB
theorem seg17 {qual scope body st} (H : LawAt w qual scope body) (hst : body[17]? = some st) {rest : List Stmt} {fa L SP c1 c2 : Addr} {cd : Value} {g : Heap} {s : Shared} {m : Str → Option Value} {Q : Flow → Shared → Prop} {E : Value → Shared → Prop} {o1 o2 o5 oc1 oc2 : Obj} {fz : Led} {pc told : Nat} {t1 t2 t5 t9 : Tok} {pp uu pr : Int} {pv : List Value} {ps : List Int}
    (B : Below callerA g [] g) (F : Fr g L s.heap m) (X : (kf.heap_1 w.params).In g) (T : Top topProg loose mean mg mb g)
    (N : News g L s.heap ((59, tabI2 c1) :: (66, tabD2 c2) :: (SP, W.listOf pv.toArray pc) :: (L + 1 + 1 + 1 + 1 + 1, o5) :: (L + 1 + 1, o2) :: (L + 1, o1) :: fz))
    (hc1 : (c1, oc1) ∈ fz) (hc2 : (c2, oc2) ∈ fz) (h66c : @LT.lt Nat _ 66 c1) (hc12 : @LT.lt Nat _ c1 c2) (ho1 : CodeAs oc1 QI) (ho2 : CodeAs oc2 QD)
    (hm : m (Str.ofString "unit") = some (.int uu t2)) (hm2 : m (Str.ofString "told") = some (.int (told : Int) t9)) (d1 : o1.data = .cell (some (.int pp t1))) (d2 : o2.data = .cell (some (.ref SP))) (d5 : o5.data = .cell (some (.int pr t5)))
    (hp : PrimeOk pp) (hp0 : 12 < pp) (hpr0 : 1 ≤ pr ∧ pr ≤ 1296) (hpI : IntsAre pv ps) (hpl : ps.length ≤ 6) (ht6 : told < 6) (hu : 3 < uu ∧ uu < 12) (hpow : (uu ^ told).fmod pp = powm pr pp ps.length)
    (ret : ∀ h' tk', Fr g L h' m → News g L h' ((59, tabI2 c1) :: (66, tabD2 c2) :: (SP, W.listOf pv.toArray pc) :: (L + 1 + 1 + 1 + 1 + 1, o5) :: (L + 1 + 1, o2) :: (L + 1, o1) :: fz) →
      wpAny (model prog w) (callerA.deeper (envOfC qual scope L fa cd)) (execs rest (envOfC qual scope L fa cd)) Q E { s with heap := h', toks := tk' }) :
    wpAny (model prog w) (callerA.deeper (envOfC qual scope L fa cd)) (execs (st :: rest) (envOfC qual scope L fa cd)) Q E s := by
  revert ret
  refine law_cc (ε := envOfC qual scope L fa cd) rfl rfl H hst rfl ?_
  clear H hst
  intro ret
  have hvl := hpI.length
  have F1 := fr_know2 F hm hm2
  clear F
  have hpw : (0 : Int) ≤ uu ^ ((told : Nat) : Int).toNat ∧ uu ^ ((told : Nat) : Int).toNat ≤ 161051 := by
    exact pow_bd hu ht6
  (try dsimp only)
  repeat' (first | ((fail_if_success (with_reducible show wpAny _ _ (call (Value.ref 203) _) _ _ _)); k_extra "STEP1"))
  rename News g L _ _ => N9
  rename Fr g L _ _ => F9
  have hT6 : ∀ q ∈ fz, q ∈ (59, tabI2 c1) :: (66, tabD2 c2) :: (SP, W.listOf pv.toArray pc) :: (L + 1 + 1 + 1 + 1 + 1, o5) :: (L + 1 + 1, o2) :: (L + 1, o1) :: fz := fun q hq => .tail _ (.tail _ (.tail _ (.tail _ (.tail _ (.tail _ hq)))))
  k_dflt (refine' power_u hp ?h1 ?h2 ?h3 ?h4 (.head _) (hT6 _ hc1) (.tail _ (.head _)) (hT6 _ hc2) ho1 ho2 (Nat.le_of_ble_eq_true rfl) (Nat.le_of_ble_eq_true rfl) B F9 X N9 T rfl ?_)
  case h1 => omega
  case h2 => omega
  case h3 => omega
  case h4 => omega
  intro t8 h' tk' F' N'
  clear N9 F9
  rw [hvl, ← hpow]
  k_extra "STEPSD"
  all_goals first | (exfalso; rename (_ ≠ _) => hq; exact hq rfl) | skip
  (try dsimp only)
  rename News g L _ _ => NB
  rename Fr g L _ _ => FB
  exact ret _ _ (fr_unknow (fr_unknow2 FB hm2) hm) NB
theorem seg18 {qual scope body st} (H : LawAt w qual scope body) (hst : body[18]? = some st) {rest : List Stmt} {fa L c1 c2 : Addr} {cd : Value} {g : Heap} {s : Shared} {m : Str → Option Value} {Q : Flow → Shared → Prop} {E : Value → Shared → Prop} {o1 o5 o7 oc1 oc2 : Obj} {fz : Led} {t1 t5 : Tok} {pp pr : Int}
    (B : Below callerA g [] g) (F : Fr g L s.heap m) (X : (kf.heap_1 w.params).In g) (T : Top topProg loose mean mg mb g)
    (N : News g L s.heap ((59, tabI2 c1) :: (66, tabD2 c2) :: (L + 1 + 1 + 1 + 1 + 1 + 1 + 1, o7) :: (L + 1 + 1 + 1 + 1 + 1, o5) :: (L + 1, o1) :: fz)) (h7 : AllNe (L + 1 + 1 + 1 + 1 + 1 + 1 + 1) fz) (hlt : @LT.lt Nat _ 66 L)
    (hc1 : (c1, oc1) ∈ fz) (hc2 : (c2, oc2) ∈ fz) (h66c : @LT.lt Nat _ 66 c1) (hc12 : @LT.lt Nat _ c1 c2) (ho1 : CodeAs oc1 QI) (ho2 : CodeAs oc2 QD)
    (d1 : o1.data = .cell (some (.int pp t1))) (d5 : o5.data = .cell (some (.int pr t5))) (d7 : o7.data = .cell none) (hp : PrimeOk pp) (hpr0 : 1 ≤ pr ∧ pr ≤ 1296)
    (ret : ∀ o7' t7 h' tk', Fr g L h' m → News g L h' ((L + 1 + 1 + 1 + 1 + 1 + 1 + 1, o7') :: (L + 1, o1) :: fz) → o7'.data = .cell (some (.int (pr.fmod pp) t7)) →
      wpAny (model prog w) (callerA.deeper (envOfC qual scope L fa cd)) (execs rest (envOfC qual scope L fa cd)) Q E { s with heap := h', toks := tk' }) :
    wpAny (model prog w) (callerA.deeper (envOfC qual scope L fa cd)) (execs (st :: rest) (envOfC qual scope L fa cd)) Q E s := by
  revert ret
  refine law_cc (ε := envOfC qual scope L fa cd) rfl rfl H hst rfl ?_
  clear H hst
  intro ret
  have CC := idm_2 prog w loose mean mg mb hp (x := pr) (by omega)
  (try dsimp only)
  k_extra "STEPSD"
  rename News g L _ _ => NB
  rename Fr g L _ _ => FB
  refine ret _ _ _ _ FB ?nn (by assumption)
  case nn => k_extra "NWS"
end
end
section
open L_P L_R L_T2 L_L L_X L_Y L_N
section
variable (prog : Program) (w : World) (loose : List Str) (mean : ExcName → Option Value) (mg mb : Str → Option Value)
noncomputable def powsF (p : Int) (n : Nat) (k : Nat) : List Int := (List.range k).map fun (i : Nat) => ((1 + (i : Int)) ^ n).fmod p
section
variable {prog : Program} {w : World} {A : Around} {E : Value → Shared → Prop} {s : Shared} {h₀ : Heap} {L l : Addr} {news : Led}
theorem in_A {vs : List Value} {ns : List Int} {n : Nat} {k : Int} {t : Tok} {b : Bool} {Q : Value → Shared → Prop} (N : News h₀ L s.heap news) (hl : (l, W.listOf vs.toArray n) ∈ news) (hI : IntsAre vs ns) (hb : ns.any (· == k) = b) (h : Q (.bool b) s) : wpAny (model prog w) A (compareOp .In (.int k t) (.ref l)) Q E s := by
  subst hb
  exact in_list_ints ⟨_, (N _ hl).1, rfl, _, rfl⟩ hI h
end
end
namespace seg19
noncomputable section
def Claim9 (prog : Program) (w : World) (loose : List Str) (mean : ExcName → Option Value) (mg mb : Str → Option Value) (rest : List Stmt) (fa L : Addr) (cd : Value) (g : Heap) (s : Shared) (m : Str → Option Value) (Q : Flow → Shared → Prop) (E : Value → Shared → Prop) (o1 o7 : Obj) (fz : Led) (t1 t7 : Tok) (pp rr : Int) : Prop := ∀ qual scope body st (H : LawAt w qual scope body) (hst : body[19]? = some st) (B : Below callerA g [] g) (F : Fr g L s.heap m) (X : (kf.heap_1 w.params).In g) (T : Top topProg loose mean mg mb g) (N : News g L s.heap ((L + 1 + 1 + 1 + 1 + 1 + 1 + 1, o7) :: (L + 1, o1) :: fz)) (d1 : o1.data = .cell (some (.int pp t1))) (d7 : o7.data = .cell (some (.int rr t7))) (hp : 12 < pp ∧ pp < 38) (ret : ∀ PO np h' tk', Fr g L h' (fun y => if y = Str.ofString "powers" then some (.ref PO) else m y) → News g L h' ((PO, W.listOf #[.bool ((powsF pp 2 (pp - 1).toNat).any (· == rr)), .bool ((powsF pp 3 (pp - 1).toNat).any (· == rr)), .bool ((powsF pp 6 (pp - 1).toNat).any (· == rr))] np) :: (L + 1 + 1 + 1 + 1 + 1 + 1 + 1, o7) :: (L + 1, o1) :: fz) →
      wpAny (model prog w) (callerA.deeper (envOfC qual scope L fa cd)) (execs rest (envOfC qual scope L fa cd)) Q E { s with heap := h', toks := tk' }), wpAny (model prog w) (callerA.deeper (envOfC qual scope L fa cd)) (execs (st :: rest) (envOfC qual scope L fa cd)) Q E s
abbrev T9 : Type := (((((Program × World) × (List Str)) × (((ExcName → Option Value) × (Str → Option Value)) × (Str → Option Value))) × ((((List Stmt) × Addr) × Addr) × (Value × Heap))) × ((((Shared × (Str → Option Value)) × (Flow → Shared → Prop)) × (((Value → Shared → Prop) × Obj) × Obj)) × (((Led × Tok) × Tok) × (Int × Int))))
def U9 (t : T9) : Prop := Claim9 t.1.1.1.1.1 t.1.1.1.1.2 t.1.1.1.2 t.1.1.2.1.1 t.1.1.2.1.2 t.1.1.2.2 t.1.2.1.1.1 t.1.2.1.1.2 t.1.2.1.2 t.1.2.2.1 t.1.2.2.2 t.2.1.1.1.1 t.2.1.1.1.2 t.2.1.1.2 t.2.1.2.1.1 t.2.1.2.1.2 t.2.1.2.2 t.2.2.1.1.1 t.2.2.1.1.2 t.2.2.1.2 t.2.2.2.1 t.2.2.2.2
@[irreducible] def v9 : T9 := ch9 (by k_extra "NE") U9
theorem spec9 : U9 v9 → ∀ t, U9 t := by with_unfolding_all exact sp9 _ U9
def prog := v9.1.1.1.1.1
def w := v9.1.1.1.1.2
def loose := v9.1.1.1.2
def mean := v9.1.1.2.1.1
def mg := v9.1.1.2.1.2
def mb := v9.1.1.2.2
def rest := v9.1.2.1.1.1
def fa := v9.1.2.1.1.2
def L := v9.1.2.1.2
def cd := v9.1.2.2.1
def g := v9.1.2.2.2
def s := v9.2.1.1.1.1
def m := v9.2.1.1.1.2
def Q := v9.2.1.1.2
def E := v9.2.1.2.1.1
def o1 := v9.2.1.2.1.2
def o7 := v9.2.1.2.2
def fz := v9.2.2.1.1.1
def t1 := v9.2.2.1.1.2
def t7 := v9.2.2.1.2
def pp := v9.2.2.2.1
def rr := v9.2.2.2.2
theorem core9 : Claim9 prog w loose mean mg mb rest fa L cd g s m Q E o1 o7 fz t1 t7 pp rr := by
  intro qual scope body st H hst B F X T N d1 d7 hp ret
  revert ret
  refine law_cc (ε := envOfC qual scope L fa cd) rfl rfl H hst rfl ?_
  clear H hst
  intro ret
  (try dsimp only)
  k_extra "TOLC"
  rename News g L _ _ => NB
  rename Fr g L _ _ => FB
  rename_i LB hB lB
  k_extra "g"
  obtain ⟨bv, hbv, NB⟩ : ∃ bv, IntsAre bv [2, 3, 6] ∧ News g L hB ((LB, W.listOf bv.toArray 0) :: (L + 1 + 1 + 1 + 1 + 1 + 1 + 1, o7) :: (L + 1, o1) :: fz) := ⟨_, .cons _ _ (.cons _ _ (.cons _ _ .nil)), NB⟩
  k_extra "h"
  have hbl := hbv.length
  refine lc_listAX (gs := ?gs) (vs := bv) (ax := LB) (c := 0) (Dr := fun d => d = s.drawn) (fun i ys led => led = (LB, W.listOf bv.toArray 0) :: (L + 1 + 1 + 1 + 1 + 1 + 1 + 1, o7) :: (L + 1, o1) :: fz ∧ ys = (([2, 3, 6] : List Int).take i).map fun n => Value.bool ((powsF pp n.toNat (pp - 1).toNat).any (· == rr))) ?hh ?hnm ?hgs ?hx0 ?hkind FB NB (.head _) ?hn ?hD ?hJ ?turn ?fin
  case hh => rfl
  case hnm => rfl
  case hgs => decide
  case hx0 => decide
  case hkind => rfl
  case hn => rw [hbl]; exact Nat.le_of_ble_eq_true rfl
  case hD => rfl
  case hJ => exact ⟨rfl, rfl⟩
  case turn =>
    intro i v ys led I oI C oC D2 X1 oX m₂ h tk dr E' hv hi hdr hyl hC hx F2 N2 off hXl hXg hne hlt2 hIl hS hJ
    k_extra "g"
    obtain ⟨rfl, hys⟩ := hJ
    subst hdr
    clear hS
    obtain ⟨b, tb, rfl, hb⟩ := ints_get hbv i v hv
    k_extra "h"
    have hbm : b ∈ [2, 3, 6] := List.mem_of_getElem? hb
    have hb3 : b = 2 ∨ b = 3 ∨ b = 6 := by
      simpa only [List.mem_cons, List.not_mem_nil, or_false] using hbm
    clear hIl
    (first | (refine opq_turn ?_; intro QT9 hT9) | (refine opq_V ?_; intro QT9 hT9))
    k_extra "TOLC"
    rename News g L _ _ => NR
    rename Fr g L _ _ => FR
    rename (@LT.lt Nat _ I _ ∧ _) => lR
    rename_i R2 r2 hR tkR
    k_extra "g"
    obtain ⟨ra, rb, NR⟩ : ∃ ra rb, News g L hR ((R2, rngObj 1 pp ra rb r2) :: (I, oI) :: (C, oC) :: (D2, LCg.lst ys) :: (X1, oX) :: (LB, W.listOf bv.toArray 0) :: (L + 1 + 1 + 1 + 1 + 1 + 1 + 1, o7) :: (L + 1, o1) :: fz) := ⟨_, _, NR⟩
    k_extra "h"
    refine lc_range (n := (pp - 1).toNat) (R := R2) (Dr := fun d => d = s.drawn) (fun j zs2 led => led = (R2, rngObj 1 pp ra rb r2) :: (I, oI) :: (C, oC) :: (D2, LCg.lst ys) :: (X1, oX) :: (LB, W.listOf bv.toArray 0) :: (L + 1 + 1 + 1 + 1 + 1 + 1 + 1, o7) :: (L + 1, o1) :: fz ∧ IntsAre zs2 ((powsF pp b.toNat (pp - 1).toNat).take j)) ?hh2 ?hcell2 ?hkind2 ?hx2 FR NR (.head _) ?hab2 ?hn2 ?ha2 ?hD2 ?hJ2 ?turn2 ?fin2
    case hh2 => rfl
    case hcell2 => decide
    case hkind2 => rfl
    case hx2 => rfl
    case hab2 => omega
    case hn2 => omega
    case ha2 => decide
    case hD2 => rfl
    case hJ2 => exact ⟨rfl, .nil⟩
    case turn2 =>
      intro j tj zs2 led I2 oI2 C2 oC2 D3 m₃ h tk dr E2 hj hdr hyl2 hC2 hx2 F3 N3 off2 hne3 hlt3 hIl3 hJ
      k_extra "g"
      obtain ⟨rfl, hzs2⟩ := hJ
      k_extra "h"
      subst hdr
      have hjp : (j : Int) ≤ 35 := by omega
      have hpw : (0 : Int) ≤ (1 + (j : Int)) ^ b.toNat ∧ (1 + (j : Int)) ^ b.toNat ≤ 2176782336 := by
        have e1 : ((1 + (j : Int)) ^ b.toNat) = (((1 + j) ^ b.toNat : Nat) : Int) := by rw [Int.natCast_pow]; rfl
        rw [e1]
        have e2 : (1 + j) ^ b.toNat ≤ 36 ^ b.toNat := Nat.pow_le_pow_left (by omega) _
        have e3 : 36 ^ b.toNat ≤ 2176782336 := by rcases hb3 with rfl | rfl | rfl <;> decide
        omega
      have hyj : (powsF pp b.toNat (pp - 1).toNat)[j]? = some (((1 + (j : Int)) ^ b.toNat).fmod pp) := by
        unfold powsF
        rw [List.getElem?_map, List.getElem?_range hj]; rfl
      clear hne3 hlt3 hIl3 hne hlt2 NR
      (first | (refine opq_turn ?_; intro QT9 hT9) | (refine opq_V ?_; intro QT9 hT9))
      k_extra "STEPSD"
      rename News g L _ _ => NB
      rename Fr g L _ _ => FB
      (repeat walk_at "LEAVE9")
      refine exI_4 _ _ _ _ ⟨rfl, rfl, FB, NB, off2, trivial, rfl, ?_⟩
      rw [take_next hyj]
      exact ints_app hzs2
    case fin2 =>
      intro D3 h tk dr zs2 led hbl3 hdr hyl2 F3 N3 hne3 hJ
      k_extra "g"
      obtain ⟨rfl, hzs2⟩ := hJ
      k_extra "h"
      subst hdr
      rw [List.take_of_length_le (by unfold powsF; simp)] at hzs2
      k_dflt (refine' in_A N3 (.head _) hzs2 rfl ?_)
      (repeat walk_at "LEAVE9")
      refine exI_6 _ _ _ ((LB, W.listOf bv.toArray 0) :: (L + 1 + 1 + 1 + 1 + 1 + 1 + 1, o7) :: (L + 1, o1) :: fz) oX _ ⟨rfl, rfl, F3, ?nn, hx, hXl, off.2, ⟨0, .head _⟩, rfl, ?pp⟩
      case nn =>
        have NB := N3
        k_extra "NWS"
      case pp =>
        rw [take_next hb, List.map_append, ← hys]
        rfl
  case fin =>
    intro D2 C oC m₂ h tk dr ys led hbl2 hdr hyl hC F2 N2 p1 p2 p3 hS hJ
    k_extra "g"
    obtain ⟨rfl, hys⟩ := hJ
    k_extra "h"
    subst hdr
    clear hS
    rw [hbl] at hys
    subst hys
    clear hbl2
    k_extra "STEPSD"
    rename News g L _ _ => NB
    refine lgone_intro hC (by assumption) NB (by repeat' (first | exact .head _ | apply List.Mem.tail)) (led := (D2, LCg.lst _) :: _) (fun p hp => by
      k_extra "g"
      rcases List.mem_cons.mp hp with rfl | hp <;> k_extra "h"
      · exact .head _
      · exact .tail _ (.tail _ hp)) ?ne2 ?go2
    case ne2 =>
      show AllNe C _
      exact ⟨fun e => p3 e.symm, p2⟩
    case go2 =>
      intro h' F' N'
      (repeat walk_at "LEAVE9")
      exact ret D2 _ _ _ F' fun p hp => N' p (by
        k_extra "g"
        rcases List.mem_cons.mp hp with rfl | hp <;> k_extra "h"
        · exact .head _
        · exact .tail _ (.tail _ hp))
end
end seg19
section
variable (prog : Program) (w : World) (loose : List Str) (mean : ExcName → Option Value) (mg mb : Str → Option Value)
theorem seg19 {qual scope body st} (H : LawAt w qual scope body) (hst : body[19]? = some st) {rest : List Stmt} {fa L : Addr} {cd : Value} {g : Heap} {s : Shared} {m : Str → Option Value} {Q : Flow → Shared → Prop} {E : Value → Shared → Prop} {o1 o7 : Obj} {fz : Led} {t1 t7 : Tok} {pp rr : Int}
    (B : Below callerA g [] g) (F : Fr g L s.heap m) (X : (kf.heap_1 w.params).In g) (T : Top topProg loose mean mg mb g)
    (N : News g L s.heap ((L + 1 + 1 + 1 + 1 + 1 + 1 + 1, o7) :: (L + 1, o1) :: fz))
    (d1 : o1.data = .cell (some (.int pp t1))) (d7 : o7.data = .cell (some (.int rr t7))) (hp : 12 < pp ∧ pp < 38)
    (ret : ∀ PO np h' tk', Fr g L h' (fun y => if y = Str.ofString "powers" then some (.ref PO) else m y) → News g L h' ((PO, W.listOf #[.bool ((powsF pp 2 (pp - 1).toNat).any (· == rr)), .bool ((powsF pp 3 (pp - 1).toNat).any (· == rr)), .bool ((powsF pp 6 (pp - 1).toNat).any (· == rr))] np) :: (L + 1 + 1 + 1 + 1 + 1 + 1 + 1, o7) :: (L + 1, o1) :: fz) →
      wpAny (model prog w) (callerA.deeper (envOfC qual scope L fa cd)) (execs rest (envOfC qual scope L fa cd)) Q E { s with heap := h', toks := tk' }) :
    wpAny (model prog w) (callerA.deeper (envOfC qual scope L fa cd)) (execs (st :: rest) (envOfC qual scope L fa cd)) Q E s := ((seg19.spec9 seg19.core9 (((((prog, w), loose), ((mean, mg), mb)), (((rest, fa), L), (cd, g))), ((((s, m), Q), ((E, o1), o7)), (((fz, t1), t7), (pp, rr)))) : seg19.Claim9 prog w loose mean mg mb rest fa L cd g s m Q E o1 o7 fz t1 t7 pp rr)) qual scope body st H hst B F X T N d1 d7 hp ret
end
end
section
open L_P L_R L_T2 L_L L_X L_Y L_N
section
variable (prog : Program) (w : World) (loose : List Str) (mean : ExcName → Option Value) (mg mb : Str → Option Value)
theorem seg20 {qual scope body st} (H : LawAt w qual scope body) (hst : body[20]? = some st) {rest : List Stmt} {fa L PO : Addr} {cd : Value} {g : Heap} {s : Shared} {m : Str → Option Value} {Q : Flow → Shared → Prop} {E : Value → Shared → Prop} {np told : Nat} {t9 : Tok} {b0 b1 b2 : Bool} {fz : Led}
    (B : Below callerA g [] g) (F : Fr g L s.heap m) (X : (kf.heap_1 w.params).In g) (T : Top topProg loose mean mg mb g)
    (N : News g L s.heap ((PO, W.listOf #[.bool b0, .bool b1, .bool b2] np) :: fz))
    (hm : m (Str.ofString "powers") = some (.ref PO)) (hm2 : m (Str.ofString "told") = some (.int (told : Int) t9)) (ht : told < 6) (h0 : b0 = decide (told % 2 = 0)) (h1 : b1 = decide (told % 3 = 0)) (h2 : b2 = decide (told = 0))
    (ret : ∀ h' tk' m', Fr g L h' m' → News g L h' fz → Q (.ret (.bool true)) { s with heap := h', toks := tk' }) :
    wpAny (model prog w) (callerA.deeper (envOfC qual scope L fa cd)) (execs (st :: rest) (envOfC qual scope L fa cd)) Q E s := by
  revert ret
  refine law_cc (ε := envOfC qual scope L fa cd) rfl rfl H hst rfl ?_
  clear H hst
  intro ret
  have F1 := fr_know2 F hm hm2
  clear F
  (try dsimp only)
  k_extra "STEPSD"
  rename News g L _ _ => NB
  rename Fr g L _ _ => FB
  have key : ∀ (b : Bool) (s' : Shared), b = true → Q (.ret (.bool true)) s' → Q (.ret (.bool b)) s' := by
    rintro _ _ rfl h
    exact h
  refine key _ _ ?_ (ret _ _ _ FB fun p hp => NB p (by repeat (first | exact hp | apply List.Mem.tail)))
  clear ret key FB NB
  subst h0 h1 h2
  have := cases6 ht
  rcases this with rfl | rfl | rfl | rfl | rfl | rfl <;> decide
end
end
section
section
variable (prog : Program) (w : World) (loose : List Str) (mean : ExcName → Option Value) (mg mb : Str → Option Value)
theorem fm_nat (a p : Nat) : ((a : Nat) : Int).fmod ((p : Nat) : Int) = ((a % p : Nat) : Int) := by
  rw [Int.fmod_eq_emod_of_nonneg _ (Int.natCast_nonneg p)]
  exact (Int.natCast_emod a p).symm
noncomputable abbrev up (l : List Nat) : List Int := l.map fun (x : Nat) => (x : Int)
theorem up_getD (l : List Nat) (k : Nat) : (up l).getD k 0 = ((l.getD k 0 : Nat) : Int) := by
  simp only [List.getD_eq_getElem?_getD, List.getElem?_map]
  cases l[k]? <;> rfl
theorem at_iff {sp : List Nat} {u p V k j : Nat} : At (up sp) u p (V : Int) k j ↔ k < sp.length ∧ j < 6 ∧ sp.getD k 0 * u ^ j % p = V := by
  unfold At
  rw [List.length_map, up_getD, show ((sp.getD k 0 : Nat) : Int) * ((u : Nat) : Int) ^ j = ((sp.getD k 0 * u ^ j : Nat) : Int) from by rw [Int.natCast_mul, Int.natCast_pow], fm_nat]
  constructor
  · exact fun h => ⟨h.1, h.2.1, Int.ofNat_inj.mp h.2.2⟩
  · exact fun h => ⟨h.1, h.2.1, by rw [h.2.2]⟩
theorem paired_getR {α β : Type} {R : α → β → Prop} {as : List α} {bs : List β} (h : PySem.Paired R as bs) : ∀ (i : Nat) (b : β), bs[i]? = some b → ∃ a, as[i]? = some a ∧ R a b := by
  induction h with
  | nil => intro i a h; simp at h
  | cons q r ih =>
    intro i a h
    cases i with
    | zero => exact ⟨_, rfl, by simpa using (Option.some.inj h) ▸ q⟩
    | succ i => simpa using ih i a (by simpa using h)
theorem spk_good {p u : Nat} {x0 : List Nat} {T : List (Nat × Nat)} (G : Good p u x0 T) {ps : List Int} (h : PySem.Paired (fun y x => ∃ e : Nat, e < 6 ∧ y = (x * ((u : Nat) : Int) ^ e).fmod ((p : Nat) : Int)) ps (up x0)) : ∃ sp, ps = up sp ∧ Spk p u x0 T sp := by
  have hl := h.length
  rw [List.length_map] at hl
  have hk : ∀ k, k < x0.length → ∃ e : Nat, ps[k]? = some ((x0.getD k 0 * u ^ e % p : Nat) : Int) := by
    intro k hk
    k_extra "g"
    obtain ⟨y, hy, e, he, rfl⟩ := paired_getR h k ((x0.getD k 0 : Nat) : Int) (by rw [List.getElem?_map, List.getElem?_eq_getElem hk, List.getD_eq_getElem?_getD, List.getElem?_eq_getElem hk]; rfl)
    k_extra "h"
    refine ⟨e, hy.trans (congrArg some ?_)⟩
    rw [← fm_nat, Int.natCast_mul, Int.natCast_pow]
  refine ⟨ps.map Int.toNat, ?_, ⟨G, by rw [List.length_map, hl], ?_, ?_⟩⟩
  · apply List.ext_getElem?
    intro k
    by_cases q : k < x0.length
    · obtain ⟨e, he⟩ := hk k q
      rw [List.getElem?_map, List.getElem?_map, he]
      rfl
    · rw [List.getElem?_eq_none (by omega), List.getElem?_eq_none (by simp; omega)]
  · intro k q
    k_extra "g"
    obtain ⟨e, he⟩ := hk k q
    k_extra "h"
    have h0 := G.f0 k q
    have h1 := (G.pow ⟨h0.2.1, h0.1⟩ e).1
    rw [List.getD_eq_getElem?_getD, List.getElem?_map, he]
    exact h1
  · intro k q
    k_extra "g"
    obtain ⟨e, he⟩ := hk k q
    k_extra "h"
    have h0 := G.f0 k q
    have h1 := (G.pow ⟨h0.2.1, h0.1⟩ e).2
    rw [h0.2.2] at h1
    rw [List.getD_eq_getElem?_getD, List.getElem?_map, he]
    exact congrArg Prod.fst h1
theorem spk_of {pp uu m1 m2 : Int} {pv sv : List Value} {ps qs : List Int} (D : DrawnTo pp uu m1 m2 pv sv ps qs) : ∃ p u x0 T sp, pp = ((p : Nat) : Int) ∧ uu = ((u : Nat) : Int) ∧ ps = up sp ∧ Spk p u x0 T sp := by
  have hR := D.pR
  k_extra "g"
  rcases D.pu with ⟨rfl, rfl⟩ | ⟨rfl, rfl⟩ | ⟨rfl, rfl⟩ | ⟨rfl, rfl⟩ <;> k_extra "h"
  · rw [first13] at hR
    k_extra "g"
    obtain ⟨sp, h1, h2⟩ := spk_good good13 hR
    k_extra "h"
    exact exI_5 13 4 _ _ sp ⟨rfl, rfl, h1, h2⟩
  · rw [first19] at hR
    k_extra "g"
    obtain ⟨sp, h1, h2⟩ := spk_good good19 hR
    k_extra "h"
    exact exI_5 19 8 _ _ sp ⟨rfl, rfl, h1, h2⟩
  · rw [first31] at hR
    k_extra "g"
    obtain ⟨sp, h1, h2⟩ := spk_good good31 hR
    k_extra "h"
    exact exI_5 31 6 _ _ sp ⟨rfl, rfl, h1, h2⟩
  · rw [first37] at hR
    k_extra "g"
    obtain ⟨sp, h1, h2⟩ := spk_good good37 hR
    k_extra "h"
    exact exI_5 37 11 _ _ sp ⟨rfl, rfl, h1, h2⟩
section
variable {p u : Nat} {x0 : List Nat} {T : List (Nat × Nat)} {sp : List Nat}
theorem Spk.mem (S : Spk p u x0 T sp) {y : Int} (hy : y ∈ up sp) : ∃ i, i < x0.length ∧ y = ((sp.getD i 0 : Nat) : Int) ∧ (up sp)[i]? = some y := by
  k_extra "g"
  obtain ⟨i, hi, e⟩ := List.mem_iff_getElem.mp hy
  k_extra "h"
  have hi2 : i < sp.length := by rw [List.length_map] at hi; exact hi
  refine ⟨i, by rw [← S.len]; exact hi2, ?_, by rw [List.getElem?_eq_getElem hi, e]⟩
  rw [← up_getD, List.getD_eq_getElem?_getD, List.getElem?_eq_getElem hi, e]
  rfl
theorem Spk.rngI (S : Spk p u x0 T sp) : ∀ y ∈ up sp, 1 ≤ y ∧ y ≤ 36 := by
  intro y hy
  k_extra "g"
  obtain ⟨i, hi, rfl, _⟩ := S.mem hy
  k_extra "h"
  have h1 := S.rng i hi
  have h2 := S.g.pb
  omega
theorem Spk.cov (S : Spk p u x0 T sp) {kvs : List (Int × Value)} {ts : Led} (hI : TabInv kvs ts (up sp) u p (up sp).length 0) {M : Nat} (hM : M % p ≠ 0) {num : Int} (hn : ∀ y : Nat, (num * (y : Int)).fmod p = ((M * y % p : Nat) : Int)) : ∀ y ∈ up sp, TabHas kvs ts (up sp) u p ((num * y).fmod p) := by
  intro y hy
  k_extra "g"
  obtain ⟨i, hi, rfl, _⟩ := S.mem hy
  k_extra "h"
  rw [hn]
  k_extra "g"
  obtain ⟨k, j, hk, hj, e⟩ := S.cover (S.g.red hM (S.rng i hi)).1
  k_extra "h"
  have hk2 : k < (up sp).length := by rw [List.length_map, S.len]; exact hk
  have := hI k j (.inl hk2) hk2 hj
  rw [up_getD, show ((sp.getD k 0 : Nat) : Int) * ((u : Nat) : Int) ^ j = ((sp.getD k 0 * u ^ j : Nat) : Int) from by rw [Int.natCast_mul, Int.natCast_pow], fm_nat, e] at this
  exact this
end
end
end
section
theorem L_T_MB3.ln9_T_MB3 : True := trivial
open L_T_MB3
section
variable (prog : Program) (w : World) (loose : List Str) (mean : ExcName → Option Value) (mg mb : Str → Option Value)
theorem kw9_MB3_1 : True := by
  (k_with "lT_MB3" => fail_if_success (fail_if_success (have h9 := ln9_T_MB3)))
  (k_with "omega" => (k_extra "lT_MB3"; first | (with_reducible assumption) | lia | omega +splitDisjunctions))
  trivial
theorem pairs_any {α : Type} {R : α → Int → Prop} {ks : List α} {bs : List Int} {n : Nat} (h : PySem.Paired R ks bs) (hn : bs.length = n) (d : α) : ks = (List.range n).map (fun i => ks.getD i d) ∧ ∀ i, i < n → R (ks.getD i d) (bs.getD i 0) := by
  subst hn
  have hl := h.length
  constructor
  · apply List.ext_getElem?
    intro i
    by_cases q : i < bs.length
    · rw [List.getElem?_map, List.getElem?_range q, List.getElem?_eq_getElem (by omega), Option.map_some, List.getD_eq_getElem?_getD, List.getElem?_eq_getElem (by omega)]
      rfl
    · rw [List.getElem?_eq_none (by omega), List.getElem?_eq_none (by simp; omega)]
  · intro i q
    k_extra "g"
    obtain ⟨a, ha, hr⟩ := paired_getR h i bs[i] (List.getElem?_eq_getElem q)
    k_extra "h"
    rw [List.getD_eq_getElem?_getD, ha, List.getD_eq_getElem?_getD, List.getElem?_eq_getElem q]
    exact hr
theorem range_getD {α : Type} {n i : Nat} (f : Nat → α) (d : α) (h : i < n) : ((List.range n).map f).getD i d = f i := by
  rw [List.getD_eq_getElem?_getD, List.getElem?_map, List.getElem?_range h]
  rfl
theorem zip_range {α β γ : Type} (f : α → β → γ) (a : Nat → α) (b : Nat → β) (n : Nat) : List.zipWith f ((List.range n).map a) ((List.range n).map b) = (List.range n).map fun i => f (a i) (b i) := by
  induction n with
  | zero => rfl
  | succ n ih =>
    simp only [List.range_succ, List.map_append, List.map_cons, List.map_nil]
    rw [List.zipWith_append (by simp), ih]
    rfl
section
variable {p u : Nat} {x0 : List Nat} {T : List (Nat × Nat)} {sp : List Nat}
theorem Spk.p0 (S : Spk p u x0 T sp) : 0 < p := by have := S.g.pb; omega
theorem Spk.lift (S : Spk p u x0 T sp) {i j k J V : Nat} (hk : k < x0.length) (hJ : sp.getD k 0 * u ^ J % p = V) (h6 : j = J % 6) : sp.getD k 0 * u ^ j % p = V := by
  have h1 := S.at_ hk hJ
  have h2 := S.at_ hk (j := j) rfl
  refine S.g.inj h2.1 h1.1 (h2.2.trans (Eq.trans ?_ h1.2.symm))
  refine Prod.ext rfl ?_
  show (_ + j) % 6 = (_ + J) % 6
  omega
structure Tells (p u : Nat) (sp : List Nat) (P : Nat) (K J : Nat → Nat) : Prop where
  k : ∀ i, i < sp.length → K i < sp.length
  j : ∀ i, i < sp.length → J i < 6
  e : ∀ i, i < sp.length → sp.getD (K i) 0 * u ^ J i % p = P * sp.getD i 0 % p
theorem Spk.rounds (S : Spk p u x0 T sp) {M1 M2 : Nat} {kjs1 kjs2 : List (Nat × Nat)}
    (h1 : PySem.Paired (fun (kj : Nat × Nat) a => At (up sp) u p (((M1 : Int) * a).fmod p) kj.1 kj.2) kjs1 (up sp)) (h2 : PySem.Paired (fun (kj : Nat × Nat) a => At (up sp) u p (((M2 : Int) * a).fmod p) kj.1 kj.2) kjs2 (kjs1.map fun kj => (up sp).getD kj.1 0)) :
    ∃ K J, Tells p u sp (M1 * M2) K J ∧ List.zipWith (fun c (k : Nat × Nat) => (c + k.2) % 6) (List.zipWith (fun c (k : Nat × Nat) => (c + k.2) % 6) (List.replicate (up sp).length 0) kjs1) kjs2 = (List.range sp.length).map J ∧
      (kjs2.map fun kj => (up sp).getD kj.1 0) = (List.range sp.length).map fun i => (up sp).getD (K i) 0 := by
  have hl1 := h1.length
  rw [List.length_map] at hl1
  k_extra "g"
  obtain ⟨e1, f1⟩ := pairs_any h1 (by rw [List.length_map]) (0, 0)
  obtain ⟨e2, f2⟩ := pairs_any h2 (by rw [List.length_map, hl1]) (0, 0)
  k_extra "h"
  have g1 : ∀ i, i < sp.length → (kjs1.getD i (0, 0)).1 < sp.length ∧ (kjs1.getD i (0, 0)).2 < 6 ∧ sp.getD (kjs1.getD i (0, 0)).1 0 * u ^ (kjs1.getD i (0, 0)).2 % p = M1 * sp.getD i 0 % p := by
    intro i hi
    have := f1 i hi
    rw [up_getD, ← Int.natCast_mul, fm_nat] at this
    exact at_iff.mp this
  have g2 : ∀ i, i < sp.length → (kjs2.getD i (0, 0)).1 < sp.length ∧ (kjs2.getD i (0, 0)).2 < 6 ∧ sp.getD (kjs2.getD i (0, 0)).1 0 * u ^ (kjs2.getD i (0, 0)).2 % p = M2 * sp.getD (kjs1.getD i (0, 0)).1 0 % p := by
    intro i hi
    have := f2 i hi
    rw [show (kjs1.map fun kj => (up sp).getD kj.1 0).getD i 0 = ((sp.getD (kjs1.getD i (0, 0)).1 0 : Nat) : Int) from by
      rw [← up_getD]
      conv => lhs; rw [e1, List.map_map]
      exact range_getD _ _ hi, ← Int.natCast_mul, fm_nat] at this
    exact at_iff.mp this
  refine ⟨fun i => (kjs2.getD i (0, 0)).1, fun i => (((0 + (kjs1.getD i (0, 0)).2) % 6) + (kjs2.getD i (0, 0)).2) % 6, ⟨fun i hi => (g2 i hi).1, fun i hi => Nat.mod_lt _ (by decide), fun i hi => ?_⟩, ?_, ?_⟩
  · have a1 := g1 i hi
    have a2 := g2 i hi
    refine S.lift (i := 0) (j := _) (J := (kjs2.getD i (0, 0)).2 + (kjs1.getD i (0, 0)).2) (by rw [← S.len]; exact a2.1) ?_ (by omega)
    rw [Nat.pow_add, ← Nat.mul_assoc, ← mod_step, a2.2.2, mod_step, Nat.mul_assoc]
    have : M2 * (sp.getD (kjs1.getD i (0, 0)).1 0 * u ^ (kjs1.getD i (0, 0)).2) % p = M2 * (M1 * sp.getD i 0) % p := by
      rw [Nat.mul_mod, a1.2.2, ← Nat.mul_mod]
    rw [this, ← Nat.mul_assoc, Nat.mul_comm M2 M1]
  · conv => lhs; rw [e1, e2]
    rw [show List.replicate (up sp).length 0 = (List.range sp.length).map fun _ => 0 from by rw [List.map_const', List.length_range, List.length_map], zip_range, zip_range]
  · conv => lhs; rw [e2, List.map_map]
    rfl
theorem Spk.row (S : Spk p u x0 T sp) {P : Nat} {K J : Nat → Nat} (t : Tells p u sp P K J) {b i k j d : Nat} (hi : i < sp.length) (hk : k < sp.length) (hj : j < 6) (hd : ∀ a, P * b * a % p = P * a * u ^ d % p) (h : sp.getD k 0 * u ^ j % p = P * b * sp.getD i 0 % p) : k = K i ∧ j = (J i + d) % 6 := by
  rw [S.len] at hk
  have hK : K i < x0.length := by rw [← S.len]; exact t.k i hi
  have e : sp.getD (K i) 0 * u ^ (J i + d) % p = P * b * sp.getD i 0 % p := by
    rw [hd, Nat.pow_add, ← Nat.mul_assoc, ← mod_step, t.e i hi, mod_step]
  have e2 := S.lift (i := 0) (j := (J i + d) % 6) hK e rfl
  exact S.uniq hk hK hj (Nat.mod_lt _ (by decide)) (h.trans e2.symm)
theorem Spk.neg (S : Spk p u x0 T sp) (P a : Nat) : P * (p - 1) * a % p = P * a * u ^ 3 % p := by
  have h := S.g.f8
  rw [show P * (p - 1) * a = P * a * (p - 1) from by rw [Nat.mul_assoc, Nat.mul_comm (p - 1), Nat.mul_assoc], ← h, Nat.mul_mod, Nat.mod_mod, ← Nat.mul_mod]
theorem Spk.by_ (S : Spk p u x0 T sp) {P : Nat} (hP : P % p ≠ 0) (ib : Nat) (b : Int) (hb : ([1, -1, ((u : Nat) : Int)] : List Int)[ib]? = some b) : ∃ (B d : Nat), P * B % p ≠ 0 ∧ (∀ y : Nat, (((P : Nat) : Int) * b * (y : Int)).fmod p = ((P * B * y % p : Nat) : Int)) ∧ (∀ a, P * B * a % p = P * a * u ^ d % p) ∧ (∀ c, c < 6 → costF c ((c + d) % 6) = (ib : Int)) := by
  have hp := S.g.pb
  have hp0 := S.p0
  match ib, hb with
  | 0, hb =>
    k_extra "g"
    obtain rfl : (1 : Int) = b := Option.some.inj hb
    k_extra "h"
    refine ⟨1, 0, by rw [Nat.mul_one]; exact hP, fun y => ?_, fun a => by rw [Nat.pow_zero, Nat.mul_one, Nat.mul_one], by decide +kernel⟩
    rw [Int.mul_one, Nat.mul_one, ← Int.natCast_mul, fm_nat]
  | 1, hb =>
    k_extra "g"
    obtain rfl : (-1 : Int) = b := Option.some.inj hb
    k_extra "h"
    refine ⟨p - 1, 3, ?_, fun y => ?_, S.neg P, by decide +kernel⟩
    · have := S.g.nz (P % p) (Nat.mod_lt _ hp0) (p - 1) (by omega) (Nat.pos_of_ne_zero hP) (by omega)
      rw [mod_step] at this
      exact this
    · rw [← fm_nat, Int.fmod_eq_emod_of_nonneg _ (Int.natCast_nonneg p), Int.fmod_eq_emod_of_nonneg _ (Int.natCast_nonneg p)]
      have e : (((P * (p - 1) * y : Nat) : Int)) = ((P : Nat) : Int) * -1 * (y : Int) + (p : Int) * ((P : Int) * (y : Int)) := by
        rw [Int.natCast_mul, Int.natCast_mul, Int.natCast_sub (by omega : 1 ≤ p), Int.mul_sub, Int.sub_mul, Int.mul_assoc (P : Int) (-1), Int.neg_mul, Int.mul_neg, Int.natCast_one, Int.mul_one, Int.one_mul, Int.mul_comm (P : Int) (p : Int), Int.mul_assoc (p : Int)]
        omega
      rw [e, Int.add_mul_emod_self_left]
  | 2, hb =>
    k_extra "g"
    obtain rfl : ((u : Nat) : Int) = b := Option.some.inj hb
    k_extra "h"
    refine ⟨u, 1, ?_, fun y => ?_, fun a => ?_, by decide +kernel⟩
    · have := (S.g.f2 (P % p) (Nat.mod_lt _ hp0) (Nat.pos_of_ne_zero hP)).1
      rw [mod_step] at this
      exact this
    · rw [← Int.natCast_mul, ← Int.natCast_mul, fm_nat]
    · rw [Nat.pow_one, Nat.mul_assoc, Nat.mul_comm u, Nat.mul_assoc]
  | n + 3, hb => cases hb
theorem Spk.rowAt (S : Spk p u x0 T sp) {P : Nat} (hP : P % p ≠ 0) {K J : Nat → Nat} (t : Tells p u sp P K J) {ib : Nat} {b : Int} (hb : ([1, -1, ((u : Nat) : Int)] : List Int)[ib]? = some b) :
    ∃ d, (∀ c, c < 6 → costF c ((c + d) % 6) = (ib : Int)) ∧ ∀ i k j, i < sp.length → At (up sp) u p ((((P : Nat) : Int) * b * ((sp.getD i 0 : Nat) : Int)).fmod p) k j → k = K i ∧ j = (J i + d) % 6 := by
  k_extra "g"
  obtain ⟨B, d, h1, h2, h3, h4⟩ := S.by_ hP ib b hb
  k_extra "h"
  refine ⟨d, h4, fun i k j hi hA => ?_⟩
  rw [h2] at hA
  have := at_iff.mp hA
  exact S.row t hi this.1 this.2.1 h3 this.2.2
theorem Spk.perm11 (S : Spk p u x0 T sp) {P : Nat} (hP : P % p ≠ 0) {K J : Nat → Nat} (t : Tells p u sp P K J) (kl : List Int) (h : PySem.Paired (fun (k : Int) v => ∃ kn jn : Nat, k = (kn : Int) ∧ At (up sp) u p ((((P : Nat) : Int) * 1 * v).fmod p) kn jn) kl (up sp)) : kl.Perm (rangeKs 0 (up sp).length) := by
  k_extra "g"
  obtain ⟨d, _, hr⟩ := S.rowAt hP t (ib := 0) (b := 1) rfl
  obtain ⟨e, f⟩ := pairs_any h (List.length_map _) 0
  k_extra "h"
  have e2 : kl = ((List.range sp.length).map K).map fun (k : Nat) => 0 + (k : Int) := by
    rw [e, List.map_map]
    refine List.map_congr_left fun i hi => ?_
    have hi2 := List.mem_range.mp hi
    k_extra "g"
    obtain ⟨kn, jn, h1, h2⟩ := f i hi2
    k_extra "h"
    rw [up_getD] at h2
    rw [h1, (hr i kn jn hi2 h2).1]
    exact (Int.zero_add _).symm
  rw [e2]
  unfold rangeKs
  rw [List.length_map]
  refine List.Perm.map _ ?_
  have := S.perm hP (k := K) (j := J) (fun i hi => by rw [← S.len] at hi ⊢; exact t.k i hi) (fun i hi => t.e i (by rw [S.len]; exact hi))
  rw [← S.len] at this
  exact this
theorem Spk.line12 (S : Spk p u x0 T sp) {P : Nat} (hP : P % p ≠ 0) {K J : Nat → Nat} (t : Tells p u sp P K J) (kl : List Nat) (h : PySem.Paired (fun (k : Nat) v => ∃ jn : Nat, At (up sp) u p ((((P : Nat) : Int) * 1 * v).fmod p) k jn) kl (up sp)) : kl.map (fun k => (up sp).getD k 0) = (List.range sp.length).map fun i => (up sp).getD (K i) 0 := by
  k_extra "g"
  obtain ⟨d, _, hr⟩ := S.rowAt hP t (ib := 0) (b := 1) rfl
  obtain ⟨e, f⟩ := pairs_any h (List.length_map _) 0
  k_extra "h"
  conv => lhs; rw [e, List.map_map]
  refine List.map_congr_left fun i hi => ?_
  have hi2 := List.mem_range.mp hi
  k_extra "g"
  obtain ⟨jn, h2⟩ := f i hi2
  k_extra "h"
  rw [up_getD] at h2
  exact congrArg (fun k => (up sp).getD k 0) (hr i _ jn hi2 h2).1
theorem Spk.cost14 (S : Spk p u x0 T sp) {P : Nat} (hP : P % p ≠ 0) {K J : Nat → Nat} (t : Tells p u sp P K J) (ib : Nat) (b : Int) (hb : ([1, -1, ((u : Nat) : Int)] : List Int)[ib]? = some b) (jl : List Nat) (h : PySem.Paired (fun (j : Nat) v => ∃ k : Nat, At (up sp) u p ((((P : Nat) : Int) * b * v).fmod p) k j) jl (up sp)) : List.zipWith costF ((List.range sp.length).map J) jl = List.replicate (up sp).length (ib : Int) := by
  k_extra "g"
  obtain ⟨d, hc, hr⟩ := S.rowAt hP t hb
  obtain ⟨e, f⟩ := pairs_any h (List.length_map _) 0
  k_extra "h"
  rw [e, zip_range, List.length_map]
  rw [show List.replicate sp.length ((ib : Nat) : Int) = (List.range sp.length).map fun _ => ((ib : Nat) : Int) from by rw [List.map_const', List.length_range]]
  refine List.map_congr_left fun i hi => ?_
  have hi2 := List.mem_range.mp hi
  k_extra "g"
  obtain ⟨kn, h2⟩ := f i hi2
  k_extra "h"
  rw [up_getD] at h2
  rw [(hr i kn _ hi2 h2).2]
  exact hc _ (t.j i hi2)
theorem Spk.told (S : Spk p u x0 T sp) {P : Nat} (hP : P % p ≠ 0) {K J : Nat → Nat} (t : Tells p u sp P K J) : ((List.range sp.length).map J).sum % 6 = sumG p x0 T (P % p) := by
  have := S.total hP (k := K) (j := J) (fun i hi => by rw [← S.len] at hi ⊢; exact t.k i hi) (fun i hi => t.e i (by rw [S.len]; exact hi))
  rw [← S.len] at this
  exact this
theorem powm_nat {P p : Nat} (hp : 1 < p) : ∀ k, powm (P : Int) (p : Int) k = ((P ^ k % p : Nat) : Int)
  | 0 => by
    rw [Nat.pow_zero, Nat.mod_eq_of_lt hp]
    rfl
  | k + 1 => by
    show (powm (P : Int) (p : Int) k * (P : Int)).fmod (p : Int) = _
    rw [powm_nat hp k, ← Int.natCast_mul, fm_nat, mod_step, Nat.pow_succ]
theorem Spk.pow17 (S : Spk p u x0 T sp) {P : Nat} (hP : P % p ≠ 0) : (((u : Nat) : Int) ^ sumG p x0 T (P % p)).fmod p = powm (P : Int) p (up sp).length := by
  have hp := S.g.pb
  rw [powm_nat (by omega), ← Int.natCast_pow, fm_nat, S.g.f4 _ (Nat.mod_lt _ S.p0) (Nat.pos_of_ne_zero hP), List.length_map, S.len, ← Nat.pow_mod]
theorem pows_nat (p n k m : Nat) : (powsF (p : Int) n k).any (· == ((m : Nat) : Int)) = (List.range k).any fun i => (1 + i) ^ n % p == m := by
  unfold powsF
  rw [List.any_map]
  congr 1
  funext i
  show (((1 + (i : Int)) ^ n).fmod (p : Int) == ((m : Nat) : Int)) = _
  have e : ((1 + (i : Int)) ^ n).fmod (p : Int) = (((1 + i) ^ n % p : Nat) : Int) := by
    rw [← fm_nat, Int.natCast_pow]
    rfl
  rw [e]
  by_cases q : (1 + i) ^ n % p = m
  · rw [q]; simp
  · rw [beq_eq_false_iff_ne.mpr q, beq_eq_false_iff_ne.mpr (fun h => q (Int.ofNat_inj.mp h))]
end
end
end
section
open L_P L_R L_T2 L_L L_X L_Y L_N
section
variable (prog : Program) (w : World) (loose : List Str) (mean : ExcName → Option Value) (mg mb : Str → Option Value)
theorem seg0 {qual scope body st} (H : LawAt w qual scope body) (hst : body[0]? = some st) {rest : List Stmt} {fa L ss z : Addr} {cd : Value} {g : Heap} {s : Shared} {m : Str → Option Value} {Q : Flow → Shared → Prop} {E : Value → Shared → Prop} {vs : List Value} {xs : List Int} {o1 o2 oz : Obj} {fz : Led}
    (B : Below callerA g [] g) (F : Fr g L s.heap (fun y => if y = Str.ofString "script" then some (.ref ss) else m y)) (X : (kf.heap_1 w.params).In g) (T : Top topProg loose mean mg mb g)
    (N : News g L s.heap ((z, oz) :: (L + 1 + 1, o2) :: (L + 1, o1) :: fz)) (hz : @LT.lt Nat _ (L + 1 + 1) z) (h1 : AllNe (L + 1) fz) (h2 : AllNe (L + 1 + 1) fz)
    (hss : g.IsList ss vs.toArray) (hI : IntsAre vs xs) (hl : xs.length ≤ 63) (d1 : o1.data = .cell none) (d2 : o2.data = .cell none)
    (ret : ∀ pp uu m1 m2 pv sv ps qs pc sc TU M SP ST oT t1 t2 t3 t4 o1' o2' h' tk', Fr g L h' (fun y => if y = Str.ofString "styles" then some (.ref ST) else if y = Str.ofString "many" then some (.ref M) else if y = Str.ofString "unit" then some (.int uu t2) else if y = Str.ofString "script" then some (.ref ss) else m y) →
      News g L h' ((TU, oT) :: (ST, W.listOf sv.toArray sc) :: (SP, W.listOf pv.toArray pc) :: (M, W.listOf #[.int m1 t3, .int m2 t4] 0) :: (z, oz) :: (L + 1 + 1, o2') :: (L + 1, o1') :: fz) → o1'.data = .cell (some (.int pp t1)) → o2'.data = .cell (some (.ref SP)) →
      @LT.lt Nat _ z M → @LT.lt Nat _ M SP → @LT.lt Nat _ SP ST → @LT.lt Nat _ ST TU → DrawnTo pp uu m1 m2 pv sv ps qs →
      wpAny (model prog w) (callerA.deeper (envOfC qual scope L fa cd)) (execs rest (envOfC qual scope L fa cd)) Q E { s with heap := h', toks := tk' }) :
    wpAny (model prog w) (callerA.deeper (envOfC qual scope L fa cd)) (execs (st :: rest) (envOfC qual scope L fa cd)) Q E s := by
  revert ret
  refine law_cc (ε := envOfC qual scope L fa cd) rfl rfl H hst rfl ?_
  clear H hst
  intro ret
  (try dsimp only)
  k_extra "STEPSD"
  rename News g L _ _ => NB
  rename Fr g L _ _ => FB
  rename DrawnTo _ _ _ _ _ _ _ _ => hD
  exact ret _ _ _ _ _ _ _ _ _ _ _ _ _ _ _ _ _ _ _ _ _ _ _ FB NB (by assumption) (by assumption) (by omega) (by omega) (by omega) (by omega) hD
end
end
section
open L_P L_R L_T2 L_L L_X L_Y L_N
section
variable (prog : Program) (w : World) (loose : List Str) (mean : ExcName → Option Value) (mg mb : Str → Option Value)
namespace seg1
noncomputable section
def Claim9 (prog : Program) (w : World) (loose : List Str) (mean : ExcName → Option Value) (mg mb : Str → Option Value) (rest : List Stmt) (fa L SP ST z : Addr) (cd : Value) (g : Heap) (s : Shared) (m : Str → Option Value) (Q : Flow → Shared → Prop) (E : Value → Shared → Prop) (o2 o3 oz : Obj) (fz : Led) (pc sc : Nat) (pp uu m1 m2 : Int) (pv sv : List Value) (ps qs : List Int) : Prop := ∀ qual scope body st (H : LawAt w qual scope body) (hst : body[1]? = some st) (B : Below callerA g [] g) (F : Fr g L s.heap m) (X : (kf.heap_1 w.params).In g) (T : Top topProg loose mean mg mb g) (N : News g L s.heap ((z, oz) :: (ST, W.listOf sv.toArray sc) :: (SP, W.listOf pv.toArray pc) :: (L + 1 + 1 + 1, o3) :: (L + 1 + 1, o2) :: (153, tabObj #[]) :: fz)) (hlt : @LT.lt Nat _ 153 L ∧ @LT.lt Nat _ (L + 1 + 1 + 1) SP ∧ @LT.lt Nat _ SP ST ∧ @LT.lt Nat _ ST z) (h3 : AllNe (L + 1 + 1 + 1) fz) (h153 : AllNe 153 fz) (hm : m (Str.ofString "styles") = some (.ref ST)) (d2 : o2.data = .cell (some (.ref SP))) (d3 : o3.data = .cell none) (D : DrawnTo pp uu m1 m2 pv sv ps qs) (hpl : ps.length ≤ 6) (hpr : ∀ y ∈ ps, 1 ≤ y ∧ y ≤ 36) (ret : ∀ (K : Mach) (ar : Array Value) (n3 n4 : Nat) (tl ti : Tok) o3' h' tk', Fr g L h' m → News g L h' ((K.P, W.listOf #[] n3) :: (K.d, K.dict 1 tl) :: (K.A, W.listOf #[.int 0 ti] n4) :: (L + 1 + 1 + 1, o3') :: (z, oz) :: (ST, W.listOf sv.toArray sc) :: (SP, W.listOf pv.toArray pc) :: (L + 1 + 1, o2) :: (153, tabObj ar) :: (K.ro ++ fz)) →
      o3'.data = .cell (some (.ref K.M)) → @LT.lt Nat _ z K.cT → K.chain → K.rch prog w loose mean mg mb (textF (ps.map showI) qs ps.length) → wpAny (model prog w) (callerA.deeper (envOfC qual scope L fa cd)) (execs rest (envOfC qual scope L fa cd)) Q E { s with heap := h', toks := tk' }), wpAny (model prog w) (callerA.deeper (envOfC qual scope L fa cd)) (execs (st :: rest) (envOfC qual scope L fa cd)) Q E s
abbrev T9 : Type := (((((Program × World) × ((List Str) × (ExcName → Option Value))) × (((Str → Option Value) × (Str → Option Value)) × ((List Stmt) × Addr))) × (((Addr × Addr) × (Addr × Addr)) × ((Value × Heap) × (Shared × (Str → Option Value))))) × (((((Flow → Shared → Prop) × (Value → Shared → Prop)) × (Obj × Obj)) × ((Obj × Led) × (Nat × Nat))) × (((Int × Int) × (Int × Int)) × (((List Value) × (List Value)) × ((List Int) × (List Int))))))
def U9 (t : T9) : Prop := Claim9 t.1.1.1.1.1 t.1.1.1.1.2 t.1.1.1.2.1 t.1.1.1.2.2 t.1.1.2.1.1 t.1.1.2.1.2 t.1.1.2.2.1 t.1.1.2.2.2 t.1.2.1.1.1 t.1.2.1.1.2 t.1.2.1.2.1 t.1.2.1.2.2 t.1.2.2.1.1 t.1.2.2.1.2 t.1.2.2.2.1 t.1.2.2.2.2 t.2.1.1.1.1 t.2.1.1.1.2 t.2.1.1.2.1 t.2.1.1.2.2 t.2.1.2.1.1 t.2.1.2.1.2 t.2.1.2.2.1 t.2.1.2.2.2 t.2.2.1.1.1 t.2.2.1.1.2 t.2.2.1.2.1 t.2.2.1.2.2 t.2.2.2.1.1 t.2.2.2.1.2 t.2.2.2.2.1 t.2.2.2.2.2
@[irreducible] def v9 : T9 := ch9 (by k_extra "NE") U9
theorem spec9 : U9 v9 → ∀ t, U9 t := by with_unfolding_all exact sp9 _ U9
theorem core9 : U9 v9 := by
  refine (let prog := v9.1.1.1.1.1; let w := v9.1.1.1.1.2; let loose := v9.1.1.1.2.1; let mean := v9.1.1.1.2.2; let mg := v9.1.1.2.1.1; let mb := v9.1.1.2.1.2; let rest := v9.1.1.2.2.1; let fa := v9.1.1.2.2.2; let L := v9.1.2.1.1.1; let SP := v9.1.2.1.1.2; let ST := v9.1.2.1.2.1; let z := v9.1.2.1.2.2; let cd := v9.1.2.2.1.1; let g := v9.1.2.2.1.2; let s := v9.1.2.2.2.1; let m := v9.1.2.2.2.2; let Q := v9.2.1.1.1.1; let E := v9.2.1.1.1.2; let o2 := v9.2.1.1.2.1; let o3 := v9.2.1.1.2.2; let oz := v9.2.1.2.1.1; let fz := v9.2.1.2.1.2; let pc := v9.2.1.2.2.1; let sc := v9.2.1.2.2.2; let pp := v9.2.2.1.1.1; let uu := v9.2.2.1.1.2; let m1 := v9.2.2.1.2.1; let m2 := v9.2.2.1.2.2; let pv := v9.2.2.2.1.1; let sv := v9.2.2.2.1.2; let ps := v9.2.2.2.2.1; let qs := v9.2.2.2.2.2; (?_ : Claim9 prog w loose mean mg mb rest fa L SP ST z cd g s m Q E o2 o3 oz fz pc sc pp uu m1 m2 pv sv ps qs))
  clear_value prog w loose mean mg mb rest fa L SP ST z cd g s m Q E o2 o3 oz fz pc sc pp uu m1 m2 pv sv ps qs
  intro qual scope body st H hst B F X T N hlt h3 h153 hm d2 d3 D hpl hpr ret
  revert ret
  refine law_cc (ε := envOfC qual scope L fa cd) rfl rfl H hst rfl ?_
  clear H hst
  intro ret
  have S9 : Srt [153, L, L + 1, L + 1 + 1, L + 1 + 1 + 1, SP, ST, z] := srt_c (hlt.1) <| srt_c (Nat.lt_succ_self _) <| srt_c (Nat.lt_succ_self _) <| srt_c (Nat.lt_succ_self _) <| srt_c (hlt.2.1) <| srt_c (hlt.2.2.1) <| srt_c (hlt.2.2.2) <| srt_1
  have F1 := fr_know F hm
  clear F
  have hpI := D.pI
  have hvl := hpI.length
  (try dsimp only)
  k_extra "TOLC"
  have hvl6 : pv.length ≤ 6 := by omega
  refine lc_list (vs := pv) (ax := SP) (c := pc) (Dr := fun d => d = s.drawn) (fun i ys led => led = (z, oz) :: (ST, W.listOf sv.toArray sc) :: (SP, W.listOf pv.toArray pc) :: (L + 1 + 1 + 1, o3) :: (L + 1 + 1, o2) :: (153, tabObj #[]) :: fz ∧ StrsAre ys ((ps.map showI).take i)) rfl (by decide) rfl rfl F1 N (by repeat' (first | exact .head _ | apply List.Mem.tail)) (by omega) rfl ⟨rfl, .nil⟩ ?turn ?fin
  case turn =>
    intro i v ys led I oI C oC D2 m₂ h tk dr E' hv hi hdr hyl hC hx F2 N2 off hne hlt2 hIl hS hJ
    k_extra "g"
    obtain ⟨rfl, hys⟩ := hJ
    subst hdr
    clear hS
    obtain ⟨y, ty, rfl, hy⟩ := ints_get hpI i v hv
    k_extra "h"
    have hyb := hpr y (List.mem_of_getElem? hy)
    have hy2 : (ps.map showI)[i]? = some (showI y) := by rw [List.getElem?_map, hy]; rfl
    (first | (refine opq_turn ?_; intro QT9 hT9) | (refine opq_V ?_; intro QT9 hT9))
    k_extra "STEPSD"
    rename News g L _ _ => NB
    rename Fr g L _ _ => FB
    exact exI_4 _ _ _ _ ⟨rfl, rfl, FB, NB, off, ⟨pc, by repeat' (first | exact .head _ | apply List.Mem.tail)⟩, rfl, by rw [take_next hy2]; exact strs_app hys⟩
  case fin =>
    intro D2 h tk dr ys led hbl hdr hyl F2 N2 hne hS hJ
    k_extra "g"
    obtain ⟨rfl, hys⟩ := hJ
    k_extra "h"
    subst hdr
    have hbz : @LT.lt Nat _ z D2 := hbl _ (.head _)
    have S8 : Srt [153, L, L + 1, L + 1 + 1, L + 1 + 1 + 1, SP, ST, z, D2] := srt_c (hlt.1) <| srt_c (Nat.lt_succ_self _) <| srt_c (Nat.lt_succ_self _) <| srt_c (Nat.lt_succ_self _) <| srt_c (hlt.2.1) <| srt_c (hlt.2.2.1) <| srt_c (hlt.2.2.2) <| srt_c hbz <| srt_1
    clear hS
    rw [List.take_of_length_le (by rw [List.length_map]; omega)] at hys
    have hsI := D.sI
    have hl6 : (ps.map showI).length ≤ 6 := by rw [List.length_map]; exact hpl
    have hql : qs.length = (ps.map showI).length := by rw [List.length_map]; exact D.ql
    have hx2 : ∀ x ∈ ps.map showI, x.length = 1 ∨ x.length = 2 := fun x hx => by
      k_extra "g"
      obtain ⟨y, hy, rfl⟩ := List.mem_map.mp hx
      k_extra "h"
      exact num_len (num_ok (hpr y hy)).1
    have htl : (textF (ps.map showI) qs (ps.map showI).length).length ≤ 200 := Nat.le_trans (textF_len hx2 (Nat.le_refl _)) (by omega)
    k_extra "STEPSD"
    rename Mach => K
    rename News g L _ _ => NB
    rename Fr g L _ _ => FB
    rename K.chain => hch
    rename K.rch prog w loose mean mg mb _ => hrc
    rw [List.length_map] at hrc
    refine ret K ?e1 ?e2 ?e3 ?e4 ?e5 _ _ _ (fr_unknow FB hm) ?nn (by assumption) (by omega) hch hrc
    case nn => k_extra "NWS"
end
end seg1
theorem seg1 {qual scope body st} (H : LawAt w qual scope body) (hst : body[1]? = some st) {rest : List Stmt} {fa L SP ST z : Addr} {cd : Value} {g : Heap} {s : Shared} {m : Str → Option Value} {Q : Flow → Shared → Prop} {E : Value → Shared → Prop} {o2 o3 oz : Obj} {fz : Led} {pc sc : Nat} {pp uu m1 m2 : Int} {pv sv : List Value} {ps qs : List Int}
    (B : Below callerA g [] g) (F : Fr g L s.heap m) (X : (kf.heap_1 w.params).In g) (T : Top topProg loose mean mg mb g)
    (N : News g L s.heap ((z, oz) :: (ST, W.listOf sv.toArray sc) :: (SP, W.listOf pv.toArray pc) :: (L + 1 + 1 + 1, o3) :: (L + 1 + 1, o2) :: (153, tabObj #[]) :: fz))
    (hlt : @LT.lt Nat _ 153 L ∧ @LT.lt Nat _ (L + 1 + 1 + 1) SP ∧ @LT.lt Nat _ SP ST ∧ @LT.lt Nat _ ST z) (h3 : AllNe (L + 1 + 1 + 1) fz) (h153 : AllNe 153 fz)
    (hm : m (Str.ofString "styles") = some (.ref ST)) (d2 : o2.data = .cell (some (.ref SP))) (d3 : o3.data = .cell none) (D : DrawnTo pp uu m1 m2 pv sv ps qs) (hpl : ps.length ≤ 6) (hpr : ∀ y ∈ ps, 1 ≤ y ∧ y ≤ 36)
    (ret : ∀ (K : Mach) (ar : Array Value) (n3 n4 : Nat) (tl ti : Tok) o3' h' tk', Fr g L h' m → News g L h' ((K.P, W.listOf #[] n3) :: (K.d, K.dict 1 tl) :: (K.A, W.listOf #[.int 0 ti] n4) :: (L + 1 + 1 + 1, o3') :: (z, oz) :: (ST, W.listOf sv.toArray sc) :: (SP, W.listOf pv.toArray pc) :: (L + 1 + 1, o2) :: (153, tabObj ar) :: (K.ro ++ fz)) →
      o3'.data = .cell (some (.ref K.M)) → @LT.lt Nat _ z K.cT → K.chain → K.rch prog w loose mean mg mb (textF (ps.map showI) qs ps.length) → wpAny (model prog w) (callerA.deeper (envOfC qual scope L fa cd)) (execs rest (envOfC qual scope L fa cd)) Q E { s with heap := h', toks := tk' }) :
    wpAny (model prog w) (callerA.deeper (envOfC qual scope L fa cd)) (execs (st :: rest) (envOfC qual scope L fa cd)) Q E s := ((seg1.spec9 seg1.core9 (((((prog, w), (loose, mean)), ((mg, mb), (rest, fa))), (((L, SP), (ST, z)), ((cd, g), (s, m)))), ((((Q, E), (o2, o3)), ((oz, fz), (pc, sc))), (((pp, uu), (m1, m2)), ((pv, sv), (ps, qs))))) : seg1.Claim9 prog w loose mean mg mb rest fa L SP ST z cd g s m Q E o2 o3 oz fz pc sc pp uu m1 m2 pv sv ps qs)) qual scope body st H hst B F X T N hlt h3 h153 hm d2 d3 D hpl hpr ret
end
end
section
open L_P L_R L_T2 L_L L_X L_Y L_N L_Z
section
variable (prog : Program) (w : World) (loose : List Str) (mean : ExcName → Option Value) (mg mb : Str → Option Value)
end
namespace seg2
noncomputable section
def Claim9 (prog : Program) (w : World) (loose : List Str) (mean : ExcName → Option Value) (mg mb : Str → Option Value) (rest : List Stmt) (fa L SP : Addr) (cd : Value) (g : Heap) (s : Shared) (m : Str → Option Value) (Q : Flow → Shared → Prop) (E : Value → Shared → Prop) (o2 o3 : Obj) (fz : Led) (pc n3 n4 : Nat) (tl ti : Tok) (pp uu m1 m2 : Int) (pv sv : List Value) (ps qs : List Int) (K : Mach) : Prop := ∀ qual scope body st (H : LawAt w qual scope body) (hst : body[2]? = some st) (B : Below callerA g [] g) (F : Fr g L s.heap m) (X : (kf.heap_1 w.params).In g) (T : Top topProg loose mean mg mb g) (N : News g L s.heap ((K.P, W.listOf #[] n3) :: (K.d, K.dict 1 tl) :: (K.A, W.listOf #[.int 0 ti] n4) :: (SP, W.listOf pv.toArray pc) :: (L + 1 + 1 + 1, o3) :: (L + 1 + 1, o2) :: (31, tabObj #[]) :: fz)) (hlt : @LT.lt Nat _ 31 L ∧ @LT.lt Nat _ (L + 1 + 1 + 1) SP ∧ @LT.lt Nat _ SP K.cT) (hch : K.chain) (hrc : K.rch prog w loose mean mg mb (textF (ps.map showI) qs ps.length)) (hK : ∀ p ∈ K.ro, p ∈ fz) (hd : AllNe K.d fz) (hA : AllNe K.A fz) (h31 : AllNe 31 fz) (d2 : o2.data = .cell (some (.ref SP))) (d3 : o3.data = .cell (some (.ref K.M))) (D : DrawnTo pp uu m1 m2 pv sv ps qs) (hpl : 2 ≤ ps.length ∧ ps.length ≤ 6) (hpr : ∀ y ∈ ps, 1 ≤ y ∧ y ≤ 36) (ret : ∀ SE se nse c oc tl' ti' n4' n3' h' tk' dr', Fr g L h' (fun y => if y = Str.ofString "seen" then some (.ref SE) else m y) → News g L h' ((SE, W.listOf (se : List Value).toArray nse) :: (K.P, W.listOf #[] n3) :: (K.d, K.dict (lnF qs ps.length) tl') :: (K.A, W.listOf #[.int ((posF (ps.map showI) qs ps.length : Nat) : Int) ti'] n4') :: (SP, W.listOf pv.toArray n3') :: (L + 1 + 1 + 1, o3) :: (L + 1 + 1, o2) :: (31, tabIn c) :: (c, oc) :: fz) →
      IntsAre se ps → @LT.lt Nat _ K.P SE → @LT.lt Nat _ K.P c → CodeAs oc QS → wpAny (model prog w) (callerA.deeper (envOfC qual scope L fa cd)) (execs rest (envOfC qual scope L fa cd)) Q E { s with heap := h', toks := tk', drawn := dr' }), wpAny (model prog w) (callerA.deeper (envOfC qual scope L fa cd)) (execs (st :: rest) (envOfC qual scope L fa cd)) Q E s
abbrev T9 : Type := ((((((Program × World) × (List Str)) × ((ExcName → Option Value) × (Str → Option Value))) × (((Str → Option Value) × (List Stmt)) × (Addr × Addr))) × (((Addr × Value) × (Heap × Shared)) × (((Str → Option Value) × (Flow → Shared → Prop)) × ((Value → Shared → Prop) × Obj)))) × ((((Obj × Led) × (Nat × Nat)) × ((Nat × Tok) × (Tok × Int))) × (((Int × Int) × (Int × (List Value))) × (((List Value) × (List Int)) × ((List Int) × Mach)))))
def U9 (t : T9) : Prop := Claim9 t.1.1.1.1.1.1 t.1.1.1.1.1.2 t.1.1.1.1.2 t.1.1.1.2.1 t.1.1.1.2.2 t.1.1.2.1.1 t.1.1.2.1.2 t.1.1.2.2.1 t.1.1.2.2.2 t.1.2.1.1.1 t.1.2.1.1.2 t.1.2.1.2.1 t.1.2.1.2.2 t.1.2.2.1.1 t.1.2.2.1.2 t.1.2.2.2.1 t.1.2.2.2.2 t.2.1.1.1.1 t.2.1.1.1.2 t.2.1.1.2.1 t.2.1.1.2.2 t.2.1.2.1.1 t.2.1.2.1.2 t.2.1.2.2.1 t.2.1.2.2.2 t.2.2.1.1.1 t.2.2.1.1.2 t.2.2.1.2.1 t.2.2.1.2.2 t.2.2.2.1.1 t.2.2.2.1.2 t.2.2.2.2.1 t.2.2.2.2.2
@[irreducible] def v9 : T9 := ch9 (by k_extra "NE") U9
theorem spec9 : U9 v9 → ∀ t, U9 t := by with_unfolding_all exact sp9 _ U9
def prog := v9.1.1.1.1.1.1
def w := v9.1.1.1.1.1.2
def loose := v9.1.1.1.1.2
def mean := v9.1.1.1.2.1
def mg := v9.1.1.1.2.2
def mb := v9.1.1.2.1.1
def rest := v9.1.1.2.1.2
def fa := v9.1.1.2.2.1
def L := v9.1.1.2.2.2
def SP := v9.1.2.1.1.1
def cd := v9.1.2.1.1.2
def g := v9.1.2.1.2.1
def s := v9.1.2.1.2.2
def m := v9.1.2.2.1.1
def Q := v9.1.2.2.1.2
def E := v9.1.2.2.2.1
def o2 := v9.1.2.2.2.2
def o3 := v9.2.1.1.1.1
def fz := v9.2.1.1.1.2
def pc := v9.2.1.1.2.1
def n3 := v9.2.1.1.2.2
def n4 := v9.2.1.2.1.1
def tl := v9.2.1.2.1.2
def ti := v9.2.1.2.2.1
def pp := v9.2.1.2.2.2
def uu := v9.2.2.1.1.1
def m1 := v9.2.2.1.1.2
def m2 := v9.2.2.1.2.1
def pv := v9.2.2.1.2.2
def sv := v9.2.2.2.1.1
def ps := v9.2.2.2.1.2
def qs := v9.2.2.2.2.1
def K := v9.2.2.2.2.2
theorem core9 : Claim9 prog w loose mean mg mb rest fa L SP cd g s m Q E o2 o3 fz pc n3 n4 tl ti pp uu m1 m2 pv sv ps qs K := by
  intro qual scope body st H hst B F X T N hlt hch hrc hK hd hA h31 d2 d3 D hpl hpr ret
  revert ret
  refine law_cc (ε := envOfC qual scope L fa cd) rfl rfl H hst rfl ?_
  clear H hst
  intro ret
  have hcu9 := hch
  unfold Mach.chain Chain10 at hcu9
  have S9 : Srt [31, L, L + 1, L + 1 + 1, L + 1 + 1 + 1, SP, K.cT, K.cA, K.A, K.c, K.Fn, K.S, K.dS, K.d, K.M, K.P] := srt_c (hlt.1) <| srt_c (Nat.lt_succ_self _) <| srt_c (Nat.lt_succ_self _) <| srt_c (Nat.lt_succ_self _) <| srt_c (hlt.2.1) <| srt_c (hlt.2.2) <| srt_c (hcu9.1) <| srt_c (hcu9.2.1) <| srt_c (hcu9.2.2.1) <| srt_c (hcu9.2.2.2.1) <| srt_c (hcu9.2.2.2.2.1) <| srt_c (hcu9.2.2.2.2.2.1) <| srt_c (hcu9.2.2.2.2.2.2.1) <| srt_c (hcu9.2.2.2.2.2.2.2.1) <| srt_c (hcu9.2.2.2.2.2.2.2.2) <| srt_1
  clear hcu9
  have hpI := D.pI
  have hvl := hpI.length
  have hcu := hch
  unfold Mach.chain Chain10 at hcu
  have h6 : (ps.map showI).length ≤ 6 := by rw [List.length_map]; omega
  have hql : qs.length = (ps.map showI).length := by rw [List.length_map]; exact D.ql
  have hqr := D.qR
  have hdg : ∀ x ∈ ps.map showI, DigOk x := fun x hx => by
    k_extra "g"
    obtain ⟨y, hy, rfl⟩ := List.mem_map.mp hx
    k_extra "h"
    exact (num_ok (hpr y hy)).1
  have hn : ps.length = (ps.map showI).length := by rw [List.length_map]
  have hM : (K.M, instObj 137 K.d) ∈ fz := hK _ (.head _)
  (try dsimp only)
  k_extra "TOLC"
  refine lc_listA (vs := pv) (ax := SP) (c := pc) (Dr := fun _ => True) (fun i ys led => IntsAre ys (ps.take i) ∧ ∃ tl ti n4, (i = 0 ∧ led = (K.P, W.listOf #[] n3) :: (K.d, K.dict (lnF qs i) tl) :: (K.A, W.listOf #[.int ((posF (ps.map showI) qs i : Nat) : Int) ti] n4) :: (SP, W.listOf pv.toArray pc) :: (L + 1 + 1 + 1, o3) :: (L + 1 + 1, o2) :: (31, tabObj #[]) :: fz) ∨
      ∃ c oc, @LT.lt Nat _ K.P c ∧ CodeAs oc QS ∧ led = (K.P, W.listOf #[] n3) :: (K.d, K.dict (lnF qs i) tl) :: (K.A, W.listOf #[.int ((posF (ps.map showI) qs i : Nat) : Int) ti] n4) :: (SP, W.listOf pv.toArray pc) :: (L + 1 + 1 + 1, o3) :: (L + 1 + 1, o2) :: (31, tabIn c) :: (c, oc) :: fz) ?hh ?hcell ?hkind ?hx F N ?hl ?hn ?hD ?hJ ?turn ?fin
  case hh => rfl
  case hcell => decide
  case hkind => rfl
  case hx => rfl
  case hl => repeat' (first | exact .head _ | apply List.Mem.tail)
  case hn => omega
  case hD => trivial
  case hJ => exact ⟨.nil, _, _, _, .inl ⟨rfl, rfl⟩⟩
  case turn =>
    intro i v ys led I oI C oC D2 m₂ h tk dr E' hv hi hdr hyl hC hx F2 N2 off hne hlt2 hIl hS hJ
    clear hS
    k_extra "g"
    obtain ⟨y, ty, rfl, hy⟩ := ints_get hpI i v hv
    k_extra "h"
    have hyb := hpr y (List.mem_of_getElem? hy)
    have hk : i < (ps.map showI).length := by rw [List.length_map]; omega
    have hx0 : (ps.map showI).getD i (Str.ofString "") = showI y := by
      rw [List.getD_eq_getElem?_getD, List.getElem?_map, hy]; rfl
    k_lt hIl
    k_extra "g"
    obtain ⟨hys, tl, ti, n4, hJ⟩ := hJ
    k_extra "h"
    k_extra "g"
    rcases hJ with ⟨rfl, rfl⟩ | ⟨c, oc, hzc, hoc, rfl⟩ <;> k_extra "h"
    · (first | (refine opq_turn ?_; intro QT9 hT9) | (refine opq_V ?_; intro QT9 hT9))
      k_extra "STEPSD"
      rename News g L _ _ => NB
      rename Fr g L _ _ => FB
      rename CodeAs _ QS => hoc
      rename_i c oc9 t9 h9 tk9 dr9 l9
      have hzi : @LT.lt Nat _ K.P I := hIl.1
      refine exI_4 _ _ _ ((K.P, W.listOf #[] n3) :: (K.d, K.dict (lnF qs (0 + 1)) ?tl) :: (K.A, W.listOf #[.int ((posF (ps.map showI) qs (0 + 1) : Nat) : Int) ?ti] ?n4) :: (SP, W.listOf pv.toArray pc) :: (L + 1 + 1 + 1, o3) :: (L + 1 + 1, o2) :: (31, tabIn c) :: (c, oc9) :: fz) ⟨rfl, trivial, FB, ?nn, ⟨off.1, off.2.1, off.2.2.1, off.2.2.2.1, off.2.2.2.2.1, off.2.2.2.2.2.1, off.2.2.2.2.2.2.1, ⟨by show @Ne Nat _ _; omega, by show @Ne Nat _ _; omega, by show @Ne Nat _ _; omega⟩, off.2.2.2.2.2.2.2⟩, ⟨pc, by repeat' (first | exact .head _ | apply List.Mem.tail)⟩, by rw [take_next hy]; exact ints_app hys, _, _, _, .inr ⟨c, _, by omega, hoc, rfl⟩⟩
      case nn => k_extra "NWS"
    · (first | (refine opq_turn ?_; intro QT9 hT9) | (refine opq_V ?_; intro QT9 hT9))
      k_extra "STEPSD"
      rename News g L _ _ => NB
      rename Fr g L _ _ => FB
      exact exI_4 _ _ _ _ ⟨rfl, trivial, FB, NB, off, ⟨pc, by repeat' (first | exact .head _ | apply List.Mem.tail)⟩, by rw [take_next hy]; exact ints_app hys, _, _, _, .inr ⟨c, oc, hzc, hoc, rfl⟩⟩
  case fin =>
    intro D2 C oC m₂ h tk dr ys led hbl hdr hyl hC F2 N2 o1 o2' o3' hS hJ
    clear hS
    k_extra "g"
    obtain ⟨hys, tl, ti, n4, hJ⟩ := hJ
    k_extra "h"
    k_extra "g"
    rcases hJ with ⟨h0, rfl⟩ | ⟨c, oc, hzc, hoc, rfl⟩ <;> k_extra "h"
    · omega
    have hbz : @LT.lt Nat _ K.P D2 := hbl _ (.head _)
    rw [hvl, List.take_of_length_le (Nat.le_refl _)] at hys
    rw [hvl] at N2
    k_extra "STEPSD"
    rename News g L _ _ => NB
    refine lgone_intro hC (by assumption) NB (by repeat' (first | exact .head _ | apply List.Mem.tail)) (led := (D2, LCg.lst ys) :: _) (fun p hp => by
      k_extra "g"
      rcases List.mem_cons.mp hp with rfl | hp <;> k_extra "h"
      · exact .head _
      · exact .tail _ (.tail _ hp)) ?ne2 ?go2
    case ne2 =>
      show AllNe C _
      exact ⟨fun e => o3' e.symm, o2'⟩
    case go2 =>
      intro h' F' N'
      have NB := N'
      (repeat walk_at "LEAVE9")
      refine ret D2 ys ys.length c oc ?e1 ?e2 ?e3 ?e4 _ _ _ F' ?nn hys hbz hzc hoc
      case nn => k_extra "NWS"
end
end seg2
section
variable (prog : Program) (w : World) (loose : List Str) (mean : ExcName → Option Value) (mg mb : Str → Option Value)
theorem seg2 {qual scope body st} (H : LawAt w qual scope body) (hst : body[2]? = some st) {rest : List Stmt} {fa L SP : Addr} {cd : Value} {g : Heap} {s : Shared} {m : Str → Option Value} {Q : Flow → Shared → Prop} {E : Value → Shared → Prop} {o2 o3 : Obj} {fz : Led} {pc n3 n4 : Nat} {tl ti : Tok} {pp uu m1 m2 : Int} {pv sv : List Value} {ps qs : List Int} {K : Mach}
    (B : Below callerA g [] g) (F : Fr g L s.heap m) (X : (kf.heap_1 w.params).In g) (T : Top topProg loose mean mg mb g)
    (N : News g L s.heap ((K.P, W.listOf #[] n3) :: (K.d, K.dict 1 tl) :: (K.A, W.listOf #[.int 0 ti] n4) :: (SP, W.listOf pv.toArray pc) :: (L + 1 + 1 + 1, o3) :: (L + 1 + 1, o2) :: (31, tabObj #[]) :: fz))
    (hlt : @LT.lt Nat _ 31 L ∧ @LT.lt Nat _ (L + 1 + 1 + 1) SP ∧ @LT.lt Nat _ SP K.cT) (hch : K.chain) (hrc : K.rch prog w loose mean mg mb (textF (ps.map showI) qs ps.length)) (hK : ∀ p ∈ K.ro, p ∈ fz)
    (hd : AllNe K.d fz) (hA : AllNe K.A fz) (h31 : AllNe 31 fz)
    (d2 : o2.data = .cell (some (.ref SP))) (d3 : o3.data = .cell (some (.ref K.M))) (D : DrawnTo pp uu m1 m2 pv sv ps qs) (hpl : 2 ≤ ps.length ∧ ps.length ≤ 6) (hpr : ∀ y ∈ ps, 1 ≤ y ∧ y ≤ 36)
    (ret : ∀ SE se nse c oc tl' ti' n4' n3' h' tk' dr', Fr g L h' (fun y => if y = Str.ofString "seen" then some (.ref SE) else m y) → News g L h' ((SE, W.listOf (se : List Value).toArray nse) :: (K.P, W.listOf #[] n3) :: (K.d, K.dict (lnF qs ps.length) tl') :: (K.A, W.listOf #[.int ((posF (ps.map showI) qs ps.length : Nat) : Int) ti'] n4') :: (SP, W.listOf pv.toArray n3') :: (L + 1 + 1 + 1, o3) :: (L + 1 + 1, o2) :: (31, tabIn c) :: (c, oc) :: fz) →
      IntsAre se ps → @LT.lt Nat _ K.P SE → @LT.lt Nat _ K.P c → CodeAs oc QS → wpAny (model prog w) (callerA.deeper (envOfC qual scope L fa cd)) (execs rest (envOfC qual scope L fa cd)) Q E { s with heap := h', toks := tk', drawn := dr' }) :
    wpAny (model prog w) (callerA.deeper (envOfC qual scope L fa cd)) (execs (st :: rest) (envOfC qual scope L fa cd)) Q E s := ((seg2.spec9 seg2.core9 ((((((prog, w), loose), (mean, mg)), ((mb, rest), (fa, L))), (((SP, cd), (g, s)), ((m, Q), (E, o2)))), ((((o3, fz), (pc, n3)), ((n4, tl), (ti, pp))), (((uu, m1), (m2, pv)), ((sv, ps), (qs, K))))) : seg2.Claim9 prog w loose mean mg mb rest fa L SP cd g s m Q E o2 o3 fz pc n3 n4 tl ti pp uu m1 m2 pv sv ps qs K)) qual scope body st H hst B F X T N hlt hch hrc hK hd hA h31 d2 d3 D hpl hpr ret
end
end
section
open L_P L_R L_T2 L_L L_Y L_Z L_Q
section
variable (prog : Program) (w : World) (loose : List Str) (mean : ExcName → Option Value) (mg mb : Str → Option Value)
theorem seg3 {qual scope body st} (H : LawAt w qual scope body) (hst : body[3]? = some st) {rest : List Stmt} {fa L SP SE : Addr} {cd : Value} {g : Heap} {s : Shared} {m : Str → Option Value} {Q : Flow → Shared → Prop} {E : Value → Shared → Prop} {o2 o3 : Obj} {fz : Led} {pc nse n3 n4 : Nat} {tl ti : Tok} {pp uu m1 m2 : Int} {pv sv se : List Value} {ps qs : List Int} {K : Mach}
    (B : Below callerA g [] g) (F : Fr g L s.heap m) (X : (kf.heap_1 w.params).In g) (T : Top topProg loose mean mg mb g)
    (N : News g L s.heap ((SE, W.listOf se.toArray nse) :: (K.P, W.listOf #[] n3) :: (K.d, K.dict (lnF qs ps.length) tl) :: (K.A, W.listOf #[.int ((posF (ps.map showI) qs ps.length : Nat) : Int) ti] n4) :: (SP, W.listOf pv.toArray pc) :: (L + 1 + 1 + 1, o3) :: (L + 1 + 1, o2) :: fz))
    (hlt : @LT.lt Nat _ (L + 1 + 1 + 1) SP ∧ @LT.lt Nat _ SP K.cT ∧ @LT.lt Nat _ K.P SE) (hch : K.chain) (hrc : K.rch prog w loose mean mg mb (textF (ps.map showI) qs ps.length)) (hK : ∀ p ∈ K.ro, p ∈ fz)
    (hd : AllNe K.d fz) (hA : AllNe K.A fz) (hm : m (Str.ofString "seen") = some (.ref SE)) (hse : IntsAre se ps)
    (d2 : o2.data = .cell (some (.ref SP))) (d3 : o3.data = .cell (some (.ref K.M))) (D : DrawnTo pp uu m1 m2 pv sv ps qs) (hpl : 2 ≤ ps.length ∧ ps.length ≤ 6) (hpr : ∀ y ∈ ps, 1 ≤ y ∧ y ≤ 36)
    (ret : ∀ tl' o' h' tk', Fr g L h' m → News g L h' ((SE, W.listOf se.toArray nse) :: (K.P, W.listOf #[] n3) :: (K.d, K.dict (1 + (((ps.length + 1) / 3 : Nat) : Int)) tl') :: (K.A, o') :: (SP, W.listOf pv.toArray pc) :: (L + 1 + 1 + 1, o3) :: (L + 1 + 1, o2) :: fz) →
      wpAny (model prog w) (callerA.deeper (envOfC qual scope L fa cd)) (execs rest (envOfC qual scope L fa cd)) Q E { s with heap := h', toks := tk' }) :
    wpAny (model prog w) (callerA.deeper (envOfC qual scope L fa cd)) (execs (st :: rest) (envOfC qual scope L fa cd)) Q E s := by
  revert ret
  refine law_cc (ε := envOfC qual scope L fa cd) rfl rfl H hst rfl ?_
  clear H hst
  intro ret
  have hcu9 := hch
  unfold Mach.chain Chain10 at hcu9
  have S9 : Srt [L, L + 1, L + 1 + 1, L + 1 + 1 + 1, SP, K.cT, K.cA, K.A, K.c, K.Fn, K.S, K.dS, K.d, K.M, K.P, SE] := srt_c (Nat.lt_succ_self _) <| srt_c (Nat.lt_succ_self _) <| srt_c (Nat.lt_succ_self _) <| srt_c (hlt.1) <| srt_c (hlt.2.1) <| srt_c (hcu9.1) <| srt_c (hcu9.2.1) <| srt_c (hcu9.2.2.1) <| srt_c (hcu9.2.2.2.1) <| srt_c (hcu9.2.2.2.2.1) <| srt_c (hcu9.2.2.2.2.2.1) <| srt_c (hcu9.2.2.2.2.2.2.1) <| srt_c (hcu9.2.2.2.2.2.2.2.1) <| srt_c (hcu9.2.2.2.2.2.2.2.2) <| srt_c (hlt.2.2) <| srt_1
  clear hcu9
  have hpI := D.pI
  have hvl := hpI.length
  have hsl := hse.length
  have hcu := hch
  unfold Mach.chain Chain10 at hcu
  have h6 : (ps.map showI).length ≤ 6 := by rw [List.length_map]; omega
  have hn0 : 1 ≤ (ps.map showI).length := by rw [List.length_map]; omega
  have hdg : ∀ x ∈ ps.map showI, DigOk x := fun x hx => by
    k_extra "g"
    obtain ⟨y, hy, rfl⟩ := List.mem_map.mp hx
    k_extra "h"
    exact (num_ok (hpr y hy)).1
  have hn : ps.length = (ps.map showI).length := by rw [List.length_map]
  have hM : (K.M, instObj 137 K.d) ∈ fz := hK _ (.head _)
  have F1 := fr_know F hm
  clear F
  (try dsimp only)
  k_extra "STEPSD"
  rename News g L _ _ => NB
  rename Fr g L _ _ => FB
  (try dsimp only)
  (repeat walk_at "LEAVE9")
  exact ret _ _ _ _ (fr_unknow FB hm) NB
theorem seg4 {qual scope body st} (H : LawAt w qual scope body) (hst : body[4]? = some st) {rest : List Stmt} {fa L SP : Addr} {cd : Value} {g : Heap} {s : Shared} {m : Str → Option Value} {Q : Flow → Shared → Prop} {E : Value → Shared → Prop} {o2 o3 : Obj} {fz : Led} {pc : Nat} {tl : Tok} {pv : List Value} {ps : List Int} {K : Mach}
    (B : Below callerA g [] g) (F : Fr g L s.heap m) (X : (kf.heap_1 w.params).In g) (T : Top topProg loose mean mg mb g)
    (N : News g L s.heap ((K.M, instObj 137 K.d) :: (K.d, K.dict (1 + (((ps.length + 1) / 3 : Nat) : Int)) tl) :: (SP, W.listOf pv.toArray pc) :: (L + 1 + 1 + 1, o3) :: (L + 1 + 1, o2) :: fz))
    (d2 : o2.data = .cell (some (.ref SP))) (d3 : o3.data = .cell (some (.ref K.M))) (hpI : IntsAre pv ps) (hpl : 2 ≤ ps.length ∧ ps.length ≤ 6)
    (ret : ∀ h' tk', Fr g L h' m → News g L h' ((K.M, instObj 137 K.d) :: (K.d, K.dict (1 + (((ps.length + 1) / 3 : Nat) : Int)) tl) :: (SP, W.listOf pv.toArray pc) :: (L + 1 + 1 + 1, o3) :: (L + 1 + 1, o2) :: fz) →
      wpAny (model prog w) (callerA.deeper (envOfC qual scope L fa cd)) (execs rest (envOfC qual scope L fa cd)) Q E { s with heap := h', toks := tk' }) :
    wpAny (model prog w) (callerA.deeper (envOfC qual scope L fa cd)) (execs (st :: rest) (envOfC qual scope L fa cd)) Q E s := by
  revert ret
  refine law_cc (ε := envOfC qual scope L fa cd) rfl rfl H hst rfl ?_
  clear H hst
  intro ret
  have hvl := hpI.length
  (try dsimp only)
  k_extra "STEPSD"
  · (try dsimp only)
    rename News g L _ _ => NB
    rename Fr g L _ _ => FB
    (repeat walk_at "LEAVE9")
    exact ret _ _ FB NB
namespace seg5
noncomputable section
def Claim9 (prog : Program) (w : World) (loose : List Str) (mean : ExcName → Option Value) (mg mb : Str → Option Value) (rest : List Stmt) (fa L SE : Addr) (cd : Value) (g : Heap) (s : Shared) (m : Str → Option Value) (Q : Flow → Shared → Prop) (E : Value → Shared → Prop) (o3 : Obj) (fz : Led) (nse n3 : Nat) (tl : Tok) (ln : Int) (se : List Value) (ps : List Int) (K : Mach) : Prop := ∀ qual scope body st (H : LawAt w qual scope body) (hst : body[5]? = some st) (hE : PassesOwn (model prog w) (callerA.deeper (envOfC qual scope L fa cd)) (envOfC qual scope L fa cd) E) (B : Below callerA g [] g) (F : Fr g L s.heap m) (X : (kf.heap_1 w.params).In g) (T : Top topProg loose mean mg mb g) (N : News g L s.heap ((SE, W.listOf se.toArray nse) :: (K.P, W.listOf #[] n3) :: (K.M, instObj 137 K.d) :: (K.d, K.dict ln tl) :: (L + 1 + 1 + 1, o3) :: fz)) (hlt : @LT.lt Nat _ (L + 1 + 1 + 1) K.cT ∧ @LT.lt Nat _ K.P SE) (hch : K.chain) (hP : AllNe K.P fz) (hm : m (Str.ofString "seen") = some (.ref SE)) (hse : IntsAre se ps) (d3 : o3.data = .cell (some (.ref K.M))) (hpl : ps.length ≤ 6) (hpr : ∀ y ∈ ps, 1 ≤ y ∧ y ≤ 36) (ret : ∀ pd n3' m' h' tk', Fr g L h' m' → (∀ y, y ≠ Str.ofString "speaker" → m' y = m y) → News g L h' ((SE, W.listOf se.toArray nse) :: (K.P, W.listOf (pd : List Value).toArray n3') :: (K.M, instObj 137 K.d) :: (K.d, K.dict ln tl) :: (L + 1 + 1 + 1, o3) :: fz) → StrsAre pd (ps.map showI) →
      wpAny (model prog w) (callerA.deeper (envOfC qual scope L fa cd)) (execs rest (envOfC qual scope L fa cd)) Q E { s with heap := h', toks := tk' }), wpAny (model prog w) (callerA.deeper (envOfC qual scope L fa cd)) (execs (st :: rest) (envOfC qual scope L fa cd)) Q E s
abbrev T9 : Type := (((((Program × World) × ((List Str) × (ExcName → Option Value))) × (((Str → Option Value) × (Str → Option Value)) × (List Stmt))) × (((Addr × Addr) × Addr) × ((Value × Heap) × Shared))) × (((((Str → Option Value) × (Flow → Shared → Prop)) × (Value → Shared → Prop)) × ((Obj × Led) × Nat)) × (((Nat × Tok) × Int) × (((List Value) × (List Int)) × Mach))))
def U9 (t : T9) : Prop := Claim9 t.1.1.1.1.1 t.1.1.1.1.2 t.1.1.1.2.1 t.1.1.1.2.2 t.1.1.2.1.1 t.1.1.2.1.2 t.1.1.2.2 t.1.2.1.1.1 t.1.2.1.1.2 t.1.2.1.2 t.1.2.2.1.1 t.1.2.2.1.2 t.1.2.2.2 t.2.1.1.1.1 t.2.1.1.1.2 t.2.1.1.2 t.2.1.2.1.1 t.2.1.2.1.2 t.2.1.2.2 t.2.2.1.1.1 t.2.2.1.1.2 t.2.2.1.2 t.2.2.2.1.1 t.2.2.2.1.2 t.2.2.2.2
@[irreducible] def v9 : T9 := ch9 (by k_extra "NE") U9
theorem spec9 : U9 v9 → ∀ t, U9 t := by with_unfolding_all exact sp9 _ U9
theorem core9 : U9 v9 := by
  refine (let prog := v9.1.1.1.1.1; let w := v9.1.1.1.1.2; let loose := v9.1.1.1.2.1; let mean := v9.1.1.1.2.2; let mg := v9.1.1.2.1.1; let mb := v9.1.1.2.1.2; let rest := v9.1.1.2.2; let fa := v9.1.2.1.1.1; let L := v9.1.2.1.1.2; let SE := v9.1.2.1.2; let cd := v9.1.2.2.1.1; let g := v9.1.2.2.1.2; let s := v9.1.2.2.2; let m := v9.2.1.1.1.1; let Q := v9.2.1.1.1.2; let E := v9.2.1.1.2; let o3 := v9.2.1.2.1.1; let fz := v9.2.1.2.1.2; let nse := v9.2.1.2.2; let n3 := v9.2.2.1.1.1; let tl := v9.2.2.1.1.2; let ln := v9.2.2.1.2; let se := v9.2.2.2.1.1; let ps := v9.2.2.2.1.2; let K := v9.2.2.2.2; (?_ : Claim9 prog w loose mean mg mb rest fa L SE cd g s m Q E o3 fz nse n3 tl ln se ps K))
  clear_value prog w loose mean mg mb rest fa L SE cd g s m Q E o3 fz nse n3 tl ln se ps K
  intro qual scope body st H hst hE B F X T N hlt hch hP hm hse d3 hpl hpr ret
  revert hE ret
  refine law_cc (ε := envOfC qual scope L fa cd) rfl rfl H hst rfl ?_
  clear H hst
  intro hE ret
  have hsl := hse.length
  have hcu := hch
  unfold Mach.chain Chain10 at hcu
  have F1 := fr_know F hm
  (try dsimp only)
  k_extra "TOIT"
  refine owit_list (vs := se) (ax := SE) (c := nse) (Dr := fun d => d = s.drawn) (fun i m' led => (∀ y, y ≠ Str.ofString "speaker" → m' y = m y) ∧ ∃ pd n3', StrsAre pd ((ps.map showI).take i) ∧ led = (SE, W.listOf se.toArray nse) :: (K.P, W.listOf (pd : List Value).toArray n3') :: (K.M, instObj 137 K.d) :: (K.d, K.dict ln tl) :: (L + 1 + 1 + 1, o3) :: fz) rfl F N (.head _) (by omega) rfl ⟨fun _ _ => rfl, [], _, .nil, rfl⟩ ?turn ?fin
  case turn =>
    intro i x h tk dr m' led I it hv hi hdr F2 N2 off hIl hS hJ
    clear hS F1 N F
    k_extra "g"
    obtain ⟨hmm, pd, n3', hpd, rfl⟩ := hJ
    subst hdr
    obtain ⟨y, ty, rfl, hy⟩ := ints_get hse i x hv
    k_extra "h"
    have hyb := hpr y (List.mem_of_getElem? hy)
    have hpdl := strs_len hpd
    rw [List.length_take, List.length_map] at hpdl
    have hy2 : (ps.map showI)[i]? = some (showI y) := by rw [List.getElem?_map, hy]; rfl
    k_lt hIl
    (try dsimp only)
    (first | (refine opq_turn ?_; intro QT9 hT9) | (refine opq_V ?_; intro QT9 hT9))
    k_extra "STEPSD"
    rename News g L _ _ => NB
    rename Fr g L _ _ => FB
    refine exI_5 _ _ _ _ _ ⟨rfl, rfl, FB, NB, off, ⟨nse, .head _⟩, fun y hy => (if_neg hy).trans (hmm y hy), _, _, ?_, rfl⟩
    rw [take_next hy2]
    exact strs_app hpd
  case fin =>
    intro h tk dr m' led hdr F2 N2 hS hJ
    clear hS
    k_extra "g"
    obtain ⟨hmm, pd, n3', hpd, rfl⟩ := hJ
    k_extra "h"
    subst hdr
    rw [hsl, List.take_of_length_le (by rw [List.length_map]; exact Nat.le_refl _)] at hpd
    (try dsimp only)
    (repeat walk_at "LEAVE9")
    exact ret pd n3' m' h tk F2 hmm N2 hpd
end
end seg5
theorem seg5 {qual scope body st} (H : LawAt w qual scope body) (hst : body[5]? = some st) {rest : List Stmt} {fa L SE : Addr} {cd : Value} {g : Heap} {s : Shared} {m : Str → Option Value} {Q : Flow → Shared → Prop} {E : Value → Shared → Prop} {o3 : Obj} {fz : Led} {nse n3 : Nat} {tl : Tok} {ln : Int} {se : List Value} {ps : List Int} {K : Mach}
    (hE : PassesOwn (model prog w) (callerA.deeper (envOfC qual scope L fa cd)) (envOfC qual scope L fa cd) E) (B : Below callerA g [] g) (F : Fr g L s.heap m) (X : (kf.heap_1 w.params).In g) (T : Top topProg loose mean mg mb g)
    (N : News g L s.heap ((SE, W.listOf se.toArray nse) :: (K.P, W.listOf #[] n3) :: (K.M, instObj 137 K.d) :: (K.d, K.dict ln tl) :: (L + 1 + 1 + 1, o3) :: fz))
    (hlt : @LT.lt Nat _ (L + 1 + 1 + 1) K.cT ∧ @LT.lt Nat _ K.P SE) (hch : K.chain) (hP : AllNe K.P fz) (hm : m (Str.ofString "seen") = some (.ref SE)) (hse : IntsAre se ps)
    (d3 : o3.data = .cell (some (.ref K.M))) (hpl : ps.length ≤ 6) (hpr : ∀ y ∈ ps, 1 ≤ y ∧ y ≤ 36)
    (ret : ∀ pd n3' m' h' tk', Fr g L h' m' → (∀ y, y ≠ Str.ofString "speaker" → m' y = m y) → News g L h' ((SE, W.listOf se.toArray nse) :: (K.P, W.listOf (pd : List Value).toArray n3') :: (K.M, instObj 137 K.d) :: (K.d, K.dict ln tl) :: (L + 1 + 1 + 1, o3) :: fz) → StrsAre pd (ps.map showI) →
      wpAny (model prog w) (callerA.deeper (envOfC qual scope L fa cd)) (execs rest (envOfC qual scope L fa cd)) Q E { s with heap := h', toks := tk' }) :
    wpAny (model prog w) (callerA.deeper (envOfC qual scope L fa cd)) (execs (st :: rest) (envOfC qual scope L fa cd)) Q E s := ((seg5.spec9 seg5.core9 (((((prog, w), (loose, mean)), ((mg, mb), rest)), (((fa, L), SE), ((cd, g), s))), ((((m, Q), E), ((o3, fz), nse)), (((n3, tl), ln), ((se, ps), K)))) : seg5.Claim9 prog w loose mean mg mb rest fa L SE cd g s m Q E o3 fz nse n3 tl ln se ps K)) qual scope body st H hst hE B F X T N hlt hch hP hm hse d3 hpl hpr ret
end
end
section
open L_P L_R L_T2 L_L L_X L_Y L_N
section
variable (prog : Program) (w : World) (loose : List Str) (mean : ExcName → Option Value) (mg mb : Str → Option Value)
section
variable {prog : Program} {w : World} {loose : List Str} {mean : ExcName → Option Value} {mg mb : Str → Option Value} {dp un : Nat} {big : Led}
  {gd : Option (List Code)} {cn : Str} {cs : Scope} {a : Addr} {ccd : Value} {cl : List (Str × Addr)} {outer : List Env} {A₀ : Around} {base h₀ : Heap} {L z c : Addr} {oz oc : Obj} {m : Str → Option Value} {s : Shared} {Q E : Value → Shared → Prop}
theorem table_u {p u : Int} {t t' : Tok} {ss : Addr} {vs : List Value} {xs : List Int} {n : Nat} (ex fz : Led) (hp : 12 < p ∧ p < 38) (hu : 3 < u ∧ u < 12) (hI : IntsAre vs xs) (hl : xs.length ≤ 6) (hx : ∀ x ∈ xs, 1 ≤ x ∧ x ≤ 36) (hsz : @LT.lt Nat _ ss z) (hz : (z, oz) ∈ ex ++ fz) (hs : (ss, W.listOf vs.toArray n) ∈ ex ++ fz)
    (hdp : dp ≤ 335) (hu' : un ≤ 160) (B : Below A₀ base outer h₀) (F : Fr h₀ L s.heap m) (X : (kf.heap_1 w.params).In h₀) (N : News h₀ L s.heap (ex ++ fz)) (T : Top topProg loose mean mg mb h₀) (hk' : cs.kind = .function)
    (ret : ∀ d o kvs ts h' tk', Fr h₀ L h' m → News h₀ L h' ((d, o) :: (ex ++ (ts ++ fz))) → o.IsDictOf (intKind prog w) kvs → TabInv kvs ts xs u p xs.length 0 → @LT.lt Nat _ z d → (∀ q ∈ ts, @LT.lt Nat _ z q.1) → Q (.ref d) { s with heap := h', toks := tk' }) :
    wpAny (model prog w) (ktrTop dp un gd cn cs L a ccd cl outer) (call (.ref 165) [.int p t, .int u t', .ref ss]) Q E s := by
  refine wpAny_call <| con_use0 (table_con prog w loose mean mg mb z ss oz p u vs xs n t t' hp hu hI hl hx hsz) hdp hu' B F X N T hk' (fun q hq => ?_) fun r mu' nw h' tk' F' N' hR hn => ?_
  · rcases List.mem_cons.mp hq with rfl | hq
    · exact hz
    · rw [List.mem_singleton.mp hq]; exact hs
  · k_extra "g"
    refine ex_4 hR fun d o kvs ts k_ => and_7 k_ fun r1_ _ r2_ hd hT l1 l2 => ?_
    clear k_ hR
    subst r1_
    subst r2_
    k_extra "h"
    refine ret d o kvs ts h' tk' F' (fun q hq => N' q ?_) hd hT l1 l2
    simp only [List.mem_append, List.mem_cons, List.cons_append] at hq ⊢
    k_extra "g"
    rcases hq with h | h | h | h <;> k_extra "h"
    · exact .inl h
    · exact .inr (.inr (.inl h))
    · exact .inr (.inl h)
    · exact .inr (.inr (.inr h))
end
theorem seg6 {qual scope body st} (H : LawAt w qual scope body) (hst : body[6]? = some st) {rest : List Stmt} {fa L SP z : Addr} {cd : Value} {g : Heap} {s : Shared} {m : Str → Option Value} {Q : Flow → Shared → Prop} {E : Value → Shared → Prop} {o1 o2 o4 oz : Obj} {fz : Led} {pc : Nat} {t1 t2 : Tok} {pp uu : Int} {pv : List Value} {ps : List Int}
    (B : Below callerA g [] g) (F : Fr g L s.heap m) (X : (kf.heap_1 w.params).In g) (T : Top topProg loose mean mg mb g)
    (N : News g L s.heap ((z, oz) :: (SP, W.listOf pv.toArray pc) :: (L + 1 + 1 + 1 + 1, o4) :: (L + 1 + 1, o2) :: (L + 1, o1) :: fz))
    (hlt : @LT.lt Nat _ (L + 1 + 1 + 1 + 1) SP ∧ @LT.lt Nat _ SP z) (h4 : AllNe (L + 1 + 1 + 1 + 1) fz) (hm : m (Str.ofString "unit") = some (.int uu t2))
    (d1 : o1.data = .cell (some (.int pp t1))) (d2 : o2.data = .cell (some (.ref SP))) (d4 : o4.data = .cell none) (hp : 12 < pp ∧ pp < 38) (hu : 3 < uu ∧ uu < 12) (hpI : IntsAre pv ps) (hpl : ps.length ≤ 6) (hpr : ∀ y ∈ ps, 1 ≤ y ∧ y ≤ 36)
    (ret : ∀ d o kvs ts o4' h' tk', Fr g L h' m → News g L h' ((d, o) :: (z, oz) :: (SP, W.listOf pv.toArray pc) :: (L + 1 + 1 + 1 + 1, o4') :: (L + 1 + 1, o2) :: (L + 1, o1) :: (ts ++ fz)) → o4'.data = .cell (some (.ref d)) → o.IsDictOf (intKind prog w) kvs → TabInv kvs ts ps uu pp ps.length 0 → @LT.lt Nat _ z d → (∀ q ∈ ts, @LT.lt Nat _ z q.1) →
      wpAny (model prog w) (callerA.deeper (envOfC qual scope L fa cd)) (execs rest (envOfC qual scope L fa cd)) Q E { s with heap := h', toks := tk' }) :
    wpAny (model prog w) (callerA.deeper (envOfC qual scope L fa cd)) (execs (st :: rest) (envOfC qual scope L fa cd)) Q E s := by
  revert ret
  refine law_cc (ε := envOfC qual scope L fa cd) rfl rfl H hst rfl ?_
  clear H hst
  intro ret
  have F1 := fr_know F hm
  clear F
  (try dsimp only)
  repeat' (first | ((fail_if_success (with_reducible show wpAny _ _ (call (Value.ref 165) _) _ _ _)); k_extra "STEP1"))
  k_dflt (refine' table_u [(z, oz), (SP, W.listOf pv.toArray pc), (L + 1 + 1 + 1 + 1, o4), (L + 1 + 1, o2), (L + 1, o1)] fz hp hu hpI hpl hpr (z := z) ?a1 ?a2 ?a3 (Nat.le_of_ble_eq_true rfl) (Nat.le_of_ble_eq_true rfl) B F1 X ?k1 T rfl ?_)
  case a1 => omega
  case a2 => exact .head _
  case a3 => exact .tail _ (.head _)
  case k1 => exact N
  intro d o kvs ts h' tk' F' N' hd hT l1 l2
  simp only [List.cons_append, List.nil_append] at N'
  clear N
  have h4' : AllNe (L + 1 + 1 + 1 + 1) (ts ++ fz) := allNe_app (allNe_of fun q hq => by have := l2 q hq; show @Ne Nat _ _; omega) h4
  k_extra "STEPSD"
  rename News g L _ _ => NB
  rename Fr g L _ _ => FB
  (try dsimp only)
  exact ret _ _ _ _ _ _ _ (fr_unknow FB hm) NB (by assumption) hd hT l1 l2
end
end
section
theorem L_T_CW.ln9_T_CW : True := trivial
open L_T_CW
section
variable (prog : Program) (w : World) (loose : List Str) (mean : ExcName → Option Value) (mg mb : Str → Option Value)
theorem paired_imp {α β : Type} {R R' : α → β → Prop} {as : List α} {bs : List β} (h : PySem.Paired R as bs) (q : ∀ a b, R a b → R' a b) : PySem.Paired R' as bs := by
  induction h with
  | nil => exact .nil
  | cons r _ ih => exact .cons (q _ _ r) ih
theorem paired_mem {α β : Type} {R : α → β → Prop} {as : List α} {bs : List β} (h : PySem.Paired R as bs) : ∀ a ∈ as, ∃ b, R a b := by
  induction h with
  | nil => intro a ha; cases ha
  | cons r _ ih =>
    intro a ha
    rcases List.mem_cons.mp ha with rfl | ha
    · exact ⟨_, r⟩
    · exact ih a ha
theorem news_swap {g h : Heap} {L : Addr} {a t f : Led} (N : News g L h (a ++ (t ++ f))) : News g L h (a ++ (f ++ t)) := fun p hp => N p (by
  rcases List.mem_append.mp hp with h | h
  · exact List.mem_append_left _ h
  · rcases List.mem_append.mp h with h | h
    · exact List.mem_append_right _ (List.mem_append_right _ h)
    · exact List.mem_append_right _ (List.mem_append_left _ h))
theorem place_mono {ts ts' : Led} {xs : List Int} {u p v : Int} {y : Value} (h : RowAt ts xs u p v y) (hs : ∀ q ∈ ts, q ∈ ts') : RowAt ts' xs u p v y := by
  obtain ⟨D, zs, n, rfl, h1, h2⟩ := h
  exact ⟨D, zs, n, rfl, hs _ h1, paired_imp h2 fun a b q => q.mono hs⟩
theorem rows_mono {ts ts' : Led} {xs : List Int} {u p pr : Int} {rv : List Value} {bs : List Int} (h : PySem.Paired (fun y b => RowAt ts xs u p (pr * b) y) rv bs) (hs : ∀ q ∈ ts, q ∈ ts') : PySem.Paired (fun y b => RowAt ts' xs u p (pr * b) y) rv bs := paired_imp h fun a b q => place_mono q hs
theorem nests_mono {ts ts' : Led} {k : Nat} {cv : List Value} {is : List Nat} (h : PySem.Paired (NestAt ts k) cv is) (hs : ∀ q ∈ ts, q ∈ ts') : PySem.Paired (NestAt ts' k) cv is := paired_imp h fun a b q => by
  obtain ⟨D, zs, n, rfl, h1, h2⟩ := q
  exact ⟨D, zs, n, rfl, hs _ h1, h2⟩
theorem kw9_CW_1 : True := by
  (k_with "lT_CW" => fail_if_success (fail_if_success (have h9 := ln9_T_CW)))
  (k_with "SNE" => (k_extra "lT_CW"; first | (refine' srt_ne (by with_reducible assumption) ?ha ?hb ?hij; (case ha => k_extra "IX"); (case hb => k_extra "IX"); (case hij => exact rfl)) | (refine' srt_neC (by with_reducible assumption) ?ha ?hb ?hij; (case ha => k_extra "IX"); (case hb => k_extra "IX"); (case hij => exact rfl)) | omega))
  trivial
theorem law_end {qual scope body s19 s20} (H : LawAt w qual scope body) (h19 : body[19]? = some s19) (h20 : body[20]? = some s20) {fa L : Addr} {cd : Value} {g : Heap} {s : Shared} {m : Str → Option Value} {Q : Flow → Shared → Prop} {E : Value → Shared → Prop} {o1 o7 : Obj} {t1 t7 t9 : Tok} {pp rr : Int} {told : Nat} {fz : Led}
    (B : Below callerA g [] g) (F : Fr g L s.heap m) (X : (kf.heap_1 w.params).In g) (T : Top topProg loose mean mg mb g)
    (N : News g L s.heap ((L + 1 + 1 + 1 + 1 + 1 + 1 + 1, o7) :: (L + 1, o1) :: fz))
    (d1 : o1.data = .cell (some (.int pp t1))) (d7 : o7.data = .cell (some (.int rr t7))) (hp : 12 < pp ∧ pp < 38)
    (e1 : m (Str.ofString "told") = some (.int (told : Int) t9)) (ht : told < 6)
    (g0 : (powsF pp 2 (pp - 1).toNat).any (· == rr) = decide (told % 2 = 0)) (g1 : (powsF pp 3 (pp - 1).toNat).any (· == rr) = decide (told % 3 = 0)) (g2 : (powsF pp 6 (pp - 1).toNat).any (· == rr) = decide (told = 0))
    (ret : ∀ h' tk' m', Fr g L h' m' → News g L h' fz → Q (.ret (.bool true)) { s with heap := h', toks := tk' }) :
    wpAny (model prog w) (callerA.deeper (envOfC qual scope L fa cd)) (execs [s19, s20] (envOfC qual scope L fa cd)) Q E s := by
  refine seg19 prog w loose mean mg mb H h19 (fz := fz) B F X T N d1 d7 hp ?_
  generalize (powsF pp 2 (pp - 1).toNat).any (· == rr) = b0 at g0 ⊢
  generalize (powsF pp 3 (pp - 1).toNat).any (· == rr) = b1 at g1 ⊢
  generalize (powsF pp 6 (pp - 1).toNat).any (· == rr) = b2 at g2 ⊢
  clear F N
  intro PO np h tk F NB
  refine seg20 prog w loose mean mg mb H h20 (PO := PO) B F X T (news_take NB (.head _) fun p hp => NB p (mem_dr 3 hp)) (if_pos rfl) ((if_neg (by decide)).trans e1) ht g0 g1 g2 ?_
  intro h' tk' m' F' N'
  exact ret h' tk' m' F' N'
namespace law_walk
noncomputable section
def Claim9 (prog : Program) (w : World) (loose : List Str) (mean : ExcName → Option Value) (mg mb : Str → Option Value) (s0 s1 s2 s3 s4 s5 s6 s7 s8 s9 s10 s11 s12 s13 s14 s15 s16 s17 s18 s19 s20 : Stmt) (fa L ss : Addr) (cd : Value) (g : Heap) (s : Shared) (m : Str → Option Value) (Q : Flow → Shared → Prop) (E : Value → Shared → Prop) (vs : List Value) (xs : List Int) (o1 o2 o3 o4 o5 o6 o7 : Obj) : Prop := ∀ qual scope (H : LawAt w qual scope [s0, s1, s2, s3, s4, s5, s6, s7, s8, s9, s10, s11, s12, s13, s14, s15, s16, s17, s18, s19, s20]) (hE : PassesOwn (model prog w) (callerA.deeper (envOfC qual scope L fa cd)) (envOfC qual scope L fa cd) E) (B : Below callerA g [] g) (F : Fr g L s.heap (fun y => if y = Str.ofString "script" then some (.ref ss) else m y)) (X : (kf.heap_1 w.params).In g) (T : Top topProg loose mean mg mb g) (N : News g L s.heap ((L + 1 + 1 + 1 + 1 + 1 + 1 + 1, o7) :: (L + 1 + 1 + 1 + 1 + 1 + 1, o6) :: (L + 1 + 1 + 1 + 1 + 1, o5) :: (L + 1 + 1 + 1 + 1, o4) :: (L + 1 + 1 + 1, o3) :: (L + 1 + 1, o2) :: (L + 1, o1) :: (153, tabObj #[]) :: (66, tabObj #[]) :: (59, tabObj #[]) :: (31, tabObj #[]) :: [])) (hL : @LT.lt Nat _ 153 L) (hss : g.IsList ss vs.toArray) (hI : IntsAre vs xs) (hl : xs.length ≤ 63) (d1 : o1.data = .cell none) (d2 : o2.data = .cell none) (d3 : o3.data = .cell none) (d4 : o4.data = .cell none) (d5 : o5.data = .cell none) (d6 : o6.data = .cell none) (d7 : o7.data = .cell none) (ret : ∀ h' tk' dr' m' a1 a2 a3 a4, Fr g L h' m' → News g L h' [(153, tabObj a1), (66, tabObj a2), (59, tabObj a3), (31, tabObj a4)] → Q (.ret (.bool true)) { s with heap := h', toks := tk', drawn := dr' }), wpAny (model prog w) (callerA.deeper (envOfC qual scope L fa cd)) (execs [s0, s1, s2, s3, s4, s5, s6, s7, s8, s9, s10, s11, s12, s13, s14, s15, s16, s17, s18, s19, s20] (envOfC qual scope L fa cd)) Q E s
abbrev T9 : Type := ((((((Program × World) × (List Str)) × (((ExcName → Option Value) × (Str → Option Value)) × (Str → Option Value))) × (((Stmt × Stmt) × Stmt) × ((Stmt × Stmt) × Stmt))) × ((((Stmt × Stmt) × Stmt) × ((Stmt × Stmt) × Stmt)) × (((Stmt × Stmt) × Stmt) × (Stmt × Stmt)))) × (((((Stmt × Stmt) × Stmt) × ((Stmt × Addr) × Addr)) × (((Addr × Value) × Heap) × (Shared × (Str → Option Value)))) × (((((Flow → Shared → Prop) × (Value → Shared → Prop)) × (List Value)) × (((List Int) × Obj) × Obj)) × (((Obj × Obj) × Obj) × (Obj × Obj)))))
def U9 (t : T9) : Prop := Claim9 t.1.1.1.1.1.1 t.1.1.1.1.1.2 t.1.1.1.1.2 t.1.1.1.2.1.1 t.1.1.1.2.1.2 t.1.1.1.2.2 t.1.1.2.1.1.1 t.1.1.2.1.1.2 t.1.1.2.1.2 t.1.1.2.2.1.1 t.1.1.2.2.1.2 t.1.1.2.2.2 t.1.2.1.1.1.1 t.1.2.1.1.1.2 t.1.2.1.1.2 t.1.2.1.2.1.1 t.1.2.1.2.1.2 t.1.2.1.2.2 t.1.2.2.1.1.1 t.1.2.2.1.1.2 t.1.2.2.1.2 t.1.2.2.2.1 t.1.2.2.2.2 t.2.1.1.1.1.1 t.2.1.1.1.1.2 t.2.1.1.1.2 t.2.1.1.2.1.1 t.2.1.1.2.1.2 t.2.1.1.2.2 t.2.1.2.1.1.1 t.2.1.2.1.1.2 t.2.1.2.1.2 t.2.1.2.2.1 t.2.1.2.2.2 t.2.2.1.1.1.1 t.2.2.1.1.1.2 t.2.2.1.1.2 t.2.2.1.2.1.1 t.2.2.1.2.1.2 t.2.2.1.2.2 t.2.2.2.1.1.1 t.2.2.2.1.1.2 t.2.2.2.1.2 t.2.2.2.2.1 t.2.2.2.2.2
@[irreducible] def v9 : T9 := ch9 (by k_extra "NE") U9
theorem spec9 : U9 v9 → ∀ t, U9 t := by with_unfolding_all exact sp9 _ U9
theorem core9 : U9 v9 := by
  refine (let prog := v9.1.1.1.1.1.1; let w := v9.1.1.1.1.1.2; let loose := v9.1.1.1.1.2; let mean := v9.1.1.1.2.1.1; let mg := v9.1.1.1.2.1.2; let mb := v9.1.1.1.2.2; let s0 := v9.1.1.2.1.1.1; let s1 := v9.1.1.2.1.1.2; let s2 := v9.1.1.2.1.2; let s3 := v9.1.1.2.2.1.1; let s4 := v9.1.1.2.2.1.2; let s5 := v9.1.1.2.2.2; let s6 := v9.1.2.1.1.1.1; let s7 := v9.1.2.1.1.1.2; let s8 := v9.1.2.1.1.2; let s9 := v9.1.2.1.2.1.1; let s10 := v9.1.2.1.2.1.2; let s11 := v9.1.2.1.2.2; let s12 := v9.1.2.2.1.1.1; let s13 := v9.1.2.2.1.1.2; let s14 := v9.1.2.2.1.2; let s15 := v9.1.2.2.2.1; let s16 := v9.1.2.2.2.2; let s17 := v9.2.1.1.1.1.1; let s18 := v9.2.1.1.1.1.2; let s19 := v9.2.1.1.1.2; let s20 := v9.2.1.1.2.1.1; let fa := v9.2.1.1.2.1.2; let L := v9.2.1.1.2.2; let ss := v9.2.1.2.1.1.1; let cd := v9.2.1.2.1.1.2; let g := v9.2.1.2.1.2; let s := v9.2.1.2.2.1; let m := v9.2.1.2.2.2; let Q := v9.2.2.1.1.1.1; let E := v9.2.2.1.1.1.2; let vs := v9.2.2.1.1.2; let xs := v9.2.2.1.2.1.1; let o1 := v9.2.2.1.2.1.2; let o2 := v9.2.2.1.2.2; let o3 := v9.2.2.2.1.1.1; let o4 := v9.2.2.2.1.1.2; let o5 := v9.2.2.2.1.2; let o6 := v9.2.2.2.2.1; let o7 := v9.2.2.2.2.2; (?_ : Claim9 prog w loose mean mg mb s0 s1 s2 s3 s4 s5 s6 s7 s8 s9 s10 s11 s12 s13 s14 s15 s16 s17 s18 s19 s20 fa L ss cd g s m Q E vs xs o1 o2 o3 o4 o5 o6 o7))
  clear_value prog w loose mean mg mb s0 s1 s2 s3 s4 s5 s6 s7 s8 s9 s10 s11 s12 s13 s14 s15 s16 s17 s18 s19 s20 fa L ss cd g s m Q E vs xs o1 o2 o3 o4 o5 o6 o7
  intro qual scope H hE B F X T N hL hss hI hl d1 d2 d3 d4 d5 d6 d7 ret
  have NB := N
  have S9 : Srt [31, 59, 66, 153, L, L + 1, L + 1 + 1, L + 1 + 1 + 1, L + 1 + 1 + 1 + 1, L + 1 + 1 + 1 + 1 + 1, L + 1 + 1 + 1 + 1 + 1 + 1, L + 1 + 1 + 1 + 1 + 1 + 1 + 1] := srt_c (by decide) <| srt_c (by decide) <| srt_c (by decide) <| srt_c (hL) <| srt_c (Nat.lt_succ_self _) <| srt_c (Nat.lt_succ_self _) <| srt_c (Nat.lt_succ_self _) <| srt_c (Nat.lt_succ_self _) <| srt_c (Nat.lt_succ_self _) <| srt_c (Nat.lt_succ_self _) <| srt_c (Nat.lt_succ_self _) <| srt_1
  refine seg0 prog w loose mean mg mb H rfl (z := L + 1 + 1 + 1 + 1 + 1 + 1 + 1) (oz := o7) (fz := ((L + 1 + 1 + 1 + 1 + 1 + 1, o6) :: (L + 1 + 1 + 1 + 1 + 1, o5) :: (L + 1 + 1 + 1 + 1, o4) :: (L + 1 + 1 + 1, o3) :: (153, tabObj #[]) :: (66, tabObj #[]) :: (59, tabObj #[]) :: (31, tabObj #[]) :: [])) B F X T (by k_extra "NWS") (by omega) (by repeat' (first | with_reducible assumption | exact True.intro | (refine allNe_cons (by dsimp only; walk_at "SNE") ?_) | (refine allNe_app ?_ ?_) | assumption)) (by repeat' (first | with_reducible assumption | exact True.intro | (refine allNe_cons (by dsimp only; walk_at "SNE") ?_) | (refine allNe_app ?_ ?_) | assumption)) hss hI hl d1 d2 ?_
  clear d1 d2 N NB F o1 o2
  intro pp uu m1 m2 pv sv ps qs pc sc TU ML SP ST oT t1 t2 t3 t4 o1 o2 h tk F NB d1 d2 l1 l2 l3 l4 D
  clear S9
  have S9 : Srt [31, 59, 66, 153, L, L + 1, L + 1 + 1, L + 1 + 1 + 1, L + 1 + 1 + 1 + 1, L + 1 + 1 + 1 + 1 + 1, L + 1 + 1 + 1 + 1 + 1 + 1, L + 1 + 1 + 1 + 1 + 1 + 1 + 1, ML, SP, ST, TU] := srt_c (by decide) <| srt_c (by decide) <| srt_c (by decide) <| srt_c (hL) <| srt_c (Nat.lt_succ_self _) <| srt_c (Nat.lt_succ_self _) <| srt_c (Nat.lt_succ_self _) <| srt_c (Nat.lt_succ_self _) <| srt_c (Nat.lt_succ_self _) <| srt_c (Nat.lt_succ_self _) <| srt_c (Nat.lt_succ_self _) <| srt_c (l1) <| srt_c (l2) <| srt_c (l3) <| srt_c (l4) <| srt_1
  have hp := D.pu
  have hp2 : PrimeOk pp := by unfold PU at hp; unfold PrimeOk; omega
  have hpu : (12 < pp ∧ pp < 38) ∧ 3 < uu ∧ uu < 12 := by unfold PU at hp; omega
  have hm1 := D.m1b
  have hm2 := D.m2b
  obtain ⟨M1, rfl⟩ : ∃ k : Nat, m1 = (k : Int) := ⟨m1.toNat, by omega⟩
  obtain ⟨M2, rfl⟩ : ∃ k : Nat, m2 = (k : Int) := ⟨m2.toNat, by omega⟩
  refine ex_5 (spk_of D) fun p u x0 Tb sp q9 => ?_; refine and_4 q9 fun r1_ r2_ r3_ S => ?_; clear q9; subst r1_; subst r2_; subst r3_
  have hpr := S.rngI
  have hnb := S.g.nb
  have hpl : 2 ≤ (up sp).length ∧ (up sp).length ≤ 6 := by rw [List.length_map, S.len]; exact hnb
  have hP1 : M1 % p ≠ 0 := by rw [Nat.mod_eq_of_lt (by omega)]; omega
  have hP2 : M2 % p ≠ 0 := by rw [Nat.mod_eq_of_lt (by omega)]; omega
  have hP : M1 * M2 % p ≠ 0 := S.g.nz M1 (by omega) M2 (by omega) (by omega) (by omega)
  refine ex_1 (show ∃ mm, Fr g L h mm ∧ mm (Str.ofString "styles") = some (.ref ST) ∧ mm (Str.ofString "many") = some (.ref ML) ∧ mm (Str.ofString "unit") = some (.int (u : Int) t2) from ⟨_, F, if_pos rfl, (if_neg (by decide)).trans (if_pos rfl), (if_neg (by decide)).trans ((if_neg (by decide)).trans (if_pos rfl))⟩) fun mm q9 => ?_; refine and_4 q9 fun F e1 e2 e3 => ?_; clear q9
  refine seg1 prog w loose mean mg mb H rfl (z := TU) (oz := oT) (fz := ((ML, W.listOf #[.int (M1 : Int) t3, .int (M2 : Int) t4] 0) :: (L + 1 + 1 + 1 + 1 + 1 + 1 + 1, o7) :: (L + 1 + 1 + 1 + 1 + 1 + 1, o6) :: (L + 1 + 1 + 1 + 1 + 1, o5) :: (L + 1 + 1 + 1 + 1, o4) :: (L + 1, o1) :: (66, tabObj #[]) :: (59, tabObj #[]) :: (31, tabObj #[]) :: [])) B F X T (by k_extra "NWS") ⟨by omega, by omega, by omega, by omega⟩ (by repeat' (first | with_reducible assumption | exact True.intro | (refine allNe_cons (by dsimp only; walk_at "SNE") ?_) | (refine allNe_app ?_ ?_) | assumption)) (by repeat' (first | with_reducible assumption | exact True.intro | (refine allNe_cons (by dsimp only; walk_at "SNE") ?_) | (refine allNe_app ?_ ?_) | assumption)) e1 d2 d3 D hpl.2 hpr ?_
  clear F NB d3 o3
  intro K ar n3 n4 tl ti o3 h tk F NB d3 hz hch hrc
  have hcu := hch
  unfold Mach.chain Chain10 at hcu
  clear S9
  have S9 : Srt [31, 59, 66, 153, L, L + 1, L + 1 + 1, L + 1 + 1 + 1, L + 1 + 1 + 1 + 1, L + 1 + 1 + 1 + 1 + 1, L + 1 + 1 + 1 + 1 + 1 + 1, L + 1 + 1 + 1 + 1 + 1 + 1 + 1, ML, SP, ST, TU, K.cT, K.cA, K.A, K.c, K.Fn, K.S, K.dS, K.d, K.M, K.P] := srt_c (by decide) <| srt_c (by decide) <| srt_c (by decide) <| srt_c (hL) <| srt_c (Nat.lt_succ_self _) <| srt_c (Nat.lt_succ_self _) <| srt_c (Nat.lt_succ_self _) <| srt_c (Nat.lt_succ_self _) <| srt_c (Nat.lt_succ_self _) <| srt_c (Nat.lt_succ_self _) <| srt_c (Nat.lt_succ_self _) <| srt_c (l1) <| srt_c (l2) <| srt_c (l3) <| srt_c (l4) <| srt_c (hz) <| srt_c (hcu.1) <| srt_c (hcu.2.1) <| srt_c (hcu.2.2.1) <| srt_c (hcu.2.2.2.1) <| srt_c (hcu.2.2.2.2.1) <| srt_c (hcu.2.2.2.2.2.1) <| srt_c (hcu.2.2.2.2.2.2.1) <| srt_c (hcu.2.2.2.2.2.2.2.1) <| srt_c (hcu.2.2.2.2.2.2.2.2) <| srt_1
  have hro : ∀ p ∈ K.ro, p ∈ K.ro ++ ((ML, W.listOf #[.int (M1 : Int) t3, .int (M2 : Int) t4] 0) :: (L + 1 + 1 + 1 + 1 + 1 + 1 + 1, o7) :: (L + 1 + 1 + 1 + 1 + 1 + 1, o6) :: (L + 1 + 1 + 1 + 1 + 1, o5) :: (L + 1 + 1 + 1 + 1, o4) :: (L + 1, o1) :: (66, tabObj #[]) :: (59, tabObj #[]) :: (153, tabObj ar) :: []) := fun p hp => List.mem_append_left _ hp
  refine seg2 prog w loose mean mg mb H rfl (K := K) (fz := (K.ro ++ ((ML, W.listOf #[.int (M1 : Int) t3, .int (M2 : Int) t4] 0) :: (L + 1 + 1 + 1 + 1 + 1 + 1 + 1, o7) :: (L + 1 + 1 + 1 + 1 + 1 + 1, o6) :: (L + 1 + 1 + 1 + 1 + 1, o5) :: (L + 1 + 1 + 1 + 1, o4) :: (L + 1, o1) :: (66, tabObj #[]) :: (59, tabObj #[]) :: (153, tabObj ar) :: []))) B F X T (by k_extra "NWS") ⟨by omega, by omega, by omega⟩ hch hrc hro (by (try simp only [Mach.ro, List.cons_append, List.nil_append]); repeat' (first | with_reducible assumption | exact True.intro | (refine allNe_cons (by dsimp only; walk_at "SNE") ?_) | (refine allNe_app ?_ ?_) | assumption)) (by (try simp only [Mach.ro, List.cons_append, List.nil_append]); repeat' (first | with_reducible assumption | exact True.intro | (refine allNe_cons (by dsimp only; walk_at "SNE") ?_) | (refine allNe_app ?_ ?_) | assumption)) (by (try simp only [Mach.ro, List.cons_append, List.nil_append]); repeat' (first | with_reducible assumption | exact True.intro | (refine allNe_cons (by dsimp only; walk_at "SNE") ?_) | (refine allNe_app ?_ ?_) | assumption)) d2 d3 D hpl hpr ?_
  clear F NB
  intro SE se nse c oc tl ti n4 pc h tk dr F NB hse l5 l6 hoc
  have SC : SrtC [31, 59, 66, 153, L, L + 1, L + 1 + 1, L + 1 + 1 + 1, L + 1 + 1 + 1 + 1, L + 1 + 1 + 1 + 1 + 1, L + 1 + 1 + 1 + 1 + 1 + 1, L + 1 + 1 + 1 + 1 + 1 + 1 + 1, ML, SP, ST, TU, K.cT, K.cA, K.A, K.c, K.Fn, K.S, K.dS, K.d, K.M, K.P, c] := srt_c (by decide) <| srt_c (by decide) <| srt_c (by decide) <| srt_c (hL) <| srt_c (Nat.lt_succ_self _) <| srt_c (Nat.lt_succ_self _) <| srt_c (Nat.lt_succ_self _) <| srt_c (Nat.lt_succ_self _) <| srt_c (Nat.lt_succ_self _) <| srt_c (Nat.lt_succ_self _) <| srt_c (Nat.lt_succ_self _) <| srt_c (l1) <| srt_c (l2) <| srt_c (l3) <| srt_c (l4) <| srt_c (hz) <| srt_c (hcu.1) <| srt_c (hcu.2.1) <| srt_c (hcu.2.2.1) <| srt_c (hcu.2.2.2.1) <| srt_c (hcu.2.2.2.2.1) <| srt_c (hcu.2.2.2.2.2.1) <| srt_c (hcu.2.2.2.2.2.2.1) <| srt_c (hcu.2.2.2.2.2.2.2.1) <| srt_c (hcu.2.2.2.2.2.2.2.2) <| srt_c (l6) <| srt_1
  clear S9
  have S9 : Srt [31, 59, 66, 153, L, L + 1, L + 1 + 1, L + 1 + 1 + 1, L + 1 + 1 + 1 + 1, L + 1 + 1 + 1 + 1 + 1, L + 1 + 1 + 1 + 1 + 1 + 1, L + 1 + 1 + 1 + 1 + 1 + 1 + 1, ML, SP, ST, TU, K.cT, K.cA, K.A, K.c, K.Fn, K.S, K.dS, K.d, K.M, K.P, SE] := srt_c (by decide) <| srt_c (by decide) <| srt_c (by decide) <| srt_c (hL) <| srt_c (Nat.lt_succ_self _) <| srt_c (Nat.lt_succ_self _) <| srt_c (Nat.lt_succ_self _) <| srt_c (Nat.lt_succ_self _) <| srt_c (Nat.lt_succ_self _) <| srt_c (Nat.lt_succ_self _) <| srt_c (Nat.lt_succ_self _) <| srt_c (l1) <| srt_c (l2) <| srt_c (l3) <| srt_c (l4) <| srt_c (hz) <| srt_c (hcu.1) <| srt_c (hcu.2.1) <| srt_c (hcu.2.2.1) <| srt_c (hcu.2.2.2.1) <| srt_c (hcu.2.2.2.2.1) <| srt_c (hcu.2.2.2.2.2.1) <| srt_c (hcu.2.2.2.2.2.2.1) <| srt_c (hcu.2.2.2.2.2.2.2.1) <| srt_c (hcu.2.2.2.2.2.2.2.2) <| srt_c (l5) <| srt_1
  refine ex_1 (show ∃ mm, Fr g L h mm ∧ mm (Str.ofString "seen") = some (.ref SE) ∧ mm (Str.ofString "many") = some (.ref ML) ∧ mm (Str.ofString "unit") = some (.int (u : Int) t2) from ⟨_, F, if_pos rfl, (if_neg (by decide)).trans e2, (if_neg (by decide)).trans e3⟩) fun mm q9 => ?_; refine and_4 q9 fun F e1 e2 e3 => ?_; clear q9
  refine seg3 prog w loose mean mg mb H rfl (K := K) (fz := ((31, tabIn c) :: (c, oc) :: (K.ro ++ ((ML, W.listOf #[.int (M1 : Int) t3, .int (M2 : Int) t4] 0) :: (L + 1 + 1 + 1 + 1 + 1 + 1 + 1, o7) :: (L + 1 + 1 + 1 + 1 + 1 + 1, o6) :: (L + 1 + 1 + 1 + 1 + 1, o5) :: (L + 1 + 1 + 1 + 1, o4) :: (L + 1, o1) :: (66, tabObj #[]) :: (59, tabObj #[]) :: (153, tabObj ar) :: [])))) B F X T (by k_extra "NWS") ⟨by omega, by omega, by omega⟩ hch hrc (fun p hp => mem_dr 2 (hro p hp)) (by (try simp only [Mach.ro, List.cons_append, List.nil_append]); repeat' (first | with_reducible assumption | exact True.intro | (refine allNe_cons (by dsimp only; walk_at "SNE") ?_) | (refine allNe_app ?_ ?_) | assumption)) (by (try simp only [Mach.ro, List.cons_append, List.nil_append]); repeat' (first | with_reducible assumption | exact True.intro | (refine allNe_cons (by dsimp only; walk_at "SNE") ?_) | (refine allNe_app ?_ ?_) | assumption)) e1 hse d2 d3 D hpl hpr ?_
  clear F NB
  intro tl oA h tk F NB
  refine seg4 prog w loose mean mg mb H rfl (K := K) (fz := ((SE, W.listOf se.toArray nse) :: (K.P, W.listOf #[] n3) :: (31, tabIn c) :: (c, oc) :: ((ML, W.listOf #[.int (M1 : Int) t3, .int (M2 : Int) t4] 0) :: (L + 1 + 1 + 1 + 1 + 1 + 1 + 1, o7) :: (L + 1 + 1 + 1 + 1 + 1 + 1, o6) :: (L + 1 + 1 + 1 + 1 + 1, o5) :: (L + 1 + 1 + 1 + 1, o4) :: (L + 1, o1) :: (66, tabObj #[]) :: (59, tabObj #[]) :: (153, tabObj ar) :: []))) B F X T (by k_extra "NWS") d2 d3 D.pI hpl ?_
  clear F NB
  intro h tk F NB
  refine seg5 prog w loose mean mg mb H rfl (K := K) (fz := ((SP, W.listOf pv.toArray pc) :: (L + 1 + 1, o2) :: (31, tabIn c) :: (c, oc) :: (ML, W.listOf #[.int (M1 : Int) t3, .int (M2 : Int) t4] 0) :: (L + 1 + 1 + 1 + 1 + 1 + 1 + 1, o7) :: (L + 1 + 1 + 1 + 1 + 1 + 1, o6) :: (L + 1 + 1 + 1 + 1 + 1, o5) :: (L + 1 + 1 + 1 + 1, o4) :: (L + 1, o1) :: (66, tabObj #[]) :: (59, tabObj #[]) :: (153, tabObj ar) :: [])) hE B F X T (by k_extra "NWS") ⟨by omega, by omega⟩ hch (by repeat' (first | with_reducible assumption | exact True.intro | (refine allNe_cons (by dsimp only; walk_at "SNE") ?_) | (refine allNe_app ?_ ?_) | assumption)) e1 hse d3 hpl.2 hpr ?_
  clear F NB
  intro pd n3 m2 h tk F hmm NB hpd
  rw [← hmm _ (by decide)] at e2 e3
  generalize (1 + ((((up sp).length + 1) / 3 : Nat) : Int)) = ln at NB
  refine seg6 prog w loose mean mg mb H rfl (z := SE) (fz := ((K.P, W.listOf pd.toArray n3) :: (K.M, instObj 137 K.d) :: (K.d, K.dict ln tl) :: (L + 1 + 1 + 1, o3) :: (31, tabIn c) :: (c, oc) :: (ML, W.listOf #[.int (M1 : Int) t3, .int (M2 : Int) t4] 0) :: (L + 1 + 1 + 1 + 1 + 1 + 1 + 1, o7) :: (L + 1 + 1 + 1 + 1 + 1 + 1, o6) :: (L + 1 + 1 + 1 + 1 + 1, o5) :: (66, tabObj #[]) :: (59, tabObj #[]) :: (153, tabObj ar) :: [])) B F X T (by k_extra "NWS") ⟨by omega, by omega⟩ (by repeat' (first | with_reducible assumption | exact True.intro | (refine allNe_cons (by dsimp only; walk_at "SNE") ?_) | (refine allNe_app ?_ ?_) | assumption)) e3 d1 d2 d4 hpu.1 hpu.2 D.pI hpl.2 hpr ?_
  clear F NB d4 hro o4
  intro TD od kvs ts o4 h tk F NB d4 hd hTI l7 hts
  clear S9
  have S9 : Srt [31, 59, 66, 153, L, L + 1, L + 1 + 1, L + 1 + 1 + 1, L + 1 + 1 + 1 + 1, L + 1 + 1 + 1 + 1 + 1, L + 1 + 1 + 1 + 1 + 1 + 1, L + 1 + 1 + 1 + 1 + 1 + 1 + 1, ML, SP, ST, TU, K.cT, K.cA, K.A, K.c, K.Fn, K.S, K.dS, K.d, K.M, K.P, SE, TD] := srt_c (by decide) <| srt_c (by decide) <| srt_c (by decide) <| srt_c (hL) <| srt_c (Nat.lt_succ_self _) <| srt_c (Nat.lt_succ_self _) <| srt_c (Nat.lt_succ_self _) <| srt_c (Nat.lt_succ_self _) <| srt_c (Nat.lt_succ_self _) <| srt_c (Nat.lt_succ_self _) <| srt_c (Nat.lt_succ_self _) <| srt_c (l1) <| srt_c (l2) <| srt_c (l3) <| srt_c (l4) <| srt_c (hz) <| srt_c (hcu.1) <| srt_c (hcu.2.1) <| srt_c (hcu.2.2.1) <| srt_c (hcu.2.2.2.1) <| srt_c (hcu.2.2.2.2.1) <| srt_c (hcu.2.2.2.2.2.1) <| srt_c (hcu.2.2.2.2.2.2.1) <| srt_c (hcu.2.2.2.2.2.2.2.1) <| srt_c (hcu.2.2.2.2.2.2.2.2) <| srt_c (l5) <| srt_c (l7) <| srt_1
  replace NB := news_swap (a := [(TD, od), (SE, W.listOf se.toArray nse), (SP, W.listOf pv.toArray pc), (L + 1 + 1 + 1 + 1, o4), (L + 1 + 1, o2), (L + 1, o1)]) NB
  simp only [List.cons_append, List.nil_append] at NB
  have aN : ∀ x : Nat, @LT.lt Nat _ x SE → AllNe x ts := fun x hx => allNe_of fun q hq => by have := hts q hq; show @Ne Nat _ _; omega
  have a1 := aN K.P (by omega)
  have a2 := aN 59 (by omega)
  have a3 := aN 66 (by omega)
  have a5 := aN (L + 1 + 1 + 1 + 1 + 1) (by omega)
  have a6 := aN (L + 1 + 1 + 1 + 1 + 1 + 1) (by omega)
  have a7 := aN (L + 1 + 1 + 1 + 1 + 1 + 1 + 1) (by omega)
  refine seg7 prog w loose mean mg mb H rfl (K := K) (fz := ((TD, od) :: (c, oc) :: (153, tabObj ar) :: ts)) B F X T (by k_extra "NWS") ⟨by omega, by omega, by omega, by omega⟩ hch (by repeat' (first | with_reducible assumption | exact True.intro | (refine allNe_cons (by dsimp only; walk_at "SNE") ?_) | (refine allNe_app ?_ ?_) | assumption)) (by repeat' (first | with_reducible assumption | exact True.intro | (refine allNe_cons (by dsimp only; walk_at "SNE") ?_) | (refine allNe_app ?_ ?_) | assumption)) (by repeat' (first | with_reducible assumption | exact True.intro | (refine allNe_cons (by dsimp only; walk_at "SNE") ?_) | (refine allNe_app ?_ ?_) | assumption)) (by repeat' (first | with_reducible assumption | exact True.intro | (refine allNe_cons (by dsimp only; walk_at "SNE") ?_) | (refine allNe_app ?_ ?_) | assumption)) (by repeat' (first | with_reducible assumption | exact True.intro | (refine allNe_cons (by dsimp only; walk_at "SNE") ?_) | (refine allNe_app ?_ ?_) | assumption)) (by repeat' (first | with_reducible assumption | exact True.intro | (refine allNe_cons (by dsimp only; walk_at "SNE") ?_) | (refine allNe_app ?_ ?_) | assumption)) (.head _) hd (fun y hy => (S.cov hTI hP1 (fun y => by rw [← Int.natCast_mul, fm_nat]) y hy).mono fun q hq => mem_dr 3 hq) (.tail _ (.head _)) (by omega) hoc e2 d1 d2 d3 d4 hp2 (by omega) D.pI ⟨by omega, hpl.2⟩ hpr hpd ?_
  clear F NB a1 a2 a3 a5 a6 a7 aN
  intro ON lv1 n1 pd1 n3 o59 o66 kjs fz h tk dr F NB sb a1 a2 a3 a5 a6 a7 hON hdiv hlv hAt hpd1
  refine ex_1 (show ∃ mm, Fr g L h mm ∧ mm (Str.ofString "once") = some (.ref ON) ∧ mm (Str.ofString "many") = some (.ref ML) ∧ mm (Str.ofString "unit") = some (.int (u : Int) t2) from ⟨_, F, if_pos rfl, (if_neg (by decide)).trans e2, (if_neg (by decide)).trans e3⟩) fun mm q9 => ?_; refine and_4 q9 fun F e1 e2 e3 => ?_; clear q9
  have hkl := hAt.length
  refine seg8 prog w loose mean mg mb H rfl (K := K) (fz := fz) (TD := TD) (od := od) (c := c) (oc := oc) (ON := ON) B F X T (by k_extra "NWS") ⟨by omega, by omega, by omega, by omega⟩ hch a1 a2 a3 a5 a6 a7 (sb _ (.head _)) hd (fun y hy => (S.cov hTI hP2 (fun y => by rw [← Int.natCast_mul, fm_nat]) y hy).mono fun q hq => sb _ (mem_dr 3 hq)) (sb _ (.tail _ (.head _))) (by omega) hoc e2 d1 d2 d3 d4 hp2 (by omega) D.pI ⟨by omega, hpl.2⟩ hpr hpd1 e1 hON hlv ?c1 ?c2 ?c3 hdiv ?_
  case c1 => rw [List.length_map, List.length_zipWith, List.length_replicate]; omega
  case c2 =>
    intro y hy
    obtain ⟨kj, hk, rfl⟩ := List.mem_map.mp hy
    obtain ⟨b, hb⟩ := paired_mem hAt kj hk
    rw [List.getD_eq_getElem?_getD, List.getElem?_eq_getElem hb.1]
    exact List.getElem_mem hb.1
  case c3 => rw [List.length_map]; omega
  clear F NB a1 a2 a3 a5 a6 a7 hpd1
  intro TW lv n2 pd2 n3 o59 o66 kjs2 fz2 h tk dr F NB sb2 a1 a2 a3 a5 a6 a7 hTW hdiv hlv2 hAt2 hpd2
  refine ex_1 (show ∃ mm, Fr g L h mm ∧ mm (Str.ofString "twice") = some (.ref TW) ∧ mm (Str.ofString "many") = some (.ref ML) ∧ mm (Str.ofString "unit") = some (.int (u : Int) t2) from ⟨_, F, if_pos rfl, (if_neg (by decide)).trans e2, (if_neg (by decide)).trans e3⟩) fun mm q9 => ?_; refine and_4 q9 fun F e1 e2 e3 => ?_; clear q9
  refine ex_2 (S.rounds hAt hAt2) fun KF JF q9 => ?_; refine and_3 q9 fun tells hli hln => ?_; clear q9
  rw [hli] at hlv2
  rw [hln] at hpd2
  refine ex_4 hdiv fun c1 oc1 c2 oc2 q9 => ?_; clear hdiv; refine and_8 q9 fun r1_ r2_ hc1 hc2 h66c hc12 ho1 ho2 => ?_; clear q9; subst r1_; subst r2_
  have hTI2 : ∀ q ∈ ts, q ∈ fz2 := fun q hq => sb2 _ (sb _ (mem_dr 3 hq))
  have h153 := sb2 _ (sb _ (mem_ix 2 rfl))
  have hTD := sb2 _ (sb _ (.head _))
  refine seg9 prog w loose mean mg mb H rfl (fz := ((K.P, W.listOf pd2.toArray n3) :: (59, tabI2 c1) :: (66, tabD2 c2) :: (K.M, instObj 137 K.d) :: (K.d, K.dict ln tl) :: (SP, W.listOf pv.toArray pc) :: (L + 1 + 1 + 1 + 1 + 1 + 1 + 1, o7) :: (L + 1 + 1 + 1 + 1 + 1 + 1, o6) :: (L + 1 + 1 + 1 + 1, o4) :: (L + 1 + 1 + 1, o3) :: (L + 1 + 1, o2) :: (L + 1, o1) :: (31, tabIn c) :: fz2)) B F X T (by k_extra "NWS") (by omega) (by repeat' (first | with_reducible assumption | exact True.intro | (refine allNe_cons (by dsimp only; walk_at "SNE") ?_) | (refine allNe_app ?_ ?_) | assumption)) e2 d5 (by omega) (by omega) ?_
  clear F NB d5
  intro o5 t5 h tk F NB d5
  rw [← Int.natCast_mul] at d5
  have hpr0 : (1 : Int) ≤ ((M1 * M2 : Nat) : Int) ∧ ((M1 * M2 : Nat) : Int) ≤ 1296 := by
    have q1 : 1 * 1 ≤ M1 * M2 := Nat.mul_le_mul (by omega) (by omega)
    have q2 : M1 * M2 ≤ 36 * 36 := Nat.mul_le_mul (by omega) (by omega)
    omega
  refine seg10 prog w loose mean mg mb H rfl (K := K) (fz := ((K.M, instObj 137 K.d) :: (K.d, K.dict ln tl) :: (L + 1 + 1 + 1, o3) :: (31, tabIn c) :: fz2)) (TD := TD) (od := od) (kvs := kvs) B F X T (by k_extra "NWS") (by repeat' (first | with_reducible assumption | exact True.intro | (refine allNe_cons (by dsimp only; walk_at "SNE") ?_) | (refine allNe_app ?_ ?_) | assumption)) (by repeat' (first | with_reducible assumption | exact True.intro | (refine allNe_cons (by dsimp only; walk_at "SNE") ?_) | (refine allNe_app ?_ ?_) | assumption)) (by repeat' (first | with_reducible assumption | exact True.intro | (refine allNe_cons (by dsimp only; walk_at "SNE") ?_) | (refine allNe_app ?_ ?_) | assumption)) (mem_dr 4 hTD) hd ?cov (mem_dr 4 hc1) (mem_dr 4 hc2) h66c hc12 ho1 ho2 e3 d1 d2 d4 d5 hp2 hpu.2 hpr0 D.pI hpl.2 hpr ?_
  case cov =>
    intro b hb y hy
    obtain ⟨ib, hib⟩ := List.getElem?_of_mem hb
    obtain ⟨Bb, dd, hB, hn, _⟩ := S.by_ hP ib b hib
    exact (S.cov hTI hB hn y hy).mono fun q hq => mem_dr 4 (hTI2 q hq)
  clear F NB a1 a2 a3 a5 a6 a7
  intro RW rv nr fz3 h tk F NB sb3 a1 a6 a7 hRW hrv
  refine ex_1 (show ∃ mm, Fr g L h mm ∧ mm (Str.ofString "twice") = some (.ref TW) ∧ mm (Str.ofString "rows") = some (.ref RW) ∧ mm (Str.ofString "unit") = some (.int (u : Int) t2) from ⟨_, F, (if_neg (by decide)).trans e1, if_pos rfl, (if_neg (by decide)).trans e3⟩) fun mm q9 => ?_; refine and_4 q9 fun F e1 e2 e3 => ?_; clear q9
  replace NB := news_take NB (by repeat (first | exact sb3 _ (.head _) | apply List.Mem.tail)) NB
  replace NB := news_take NB (by repeat (first | exact sb3 _ (.tail _ (.head _)) | apply List.Mem.tail)) NB
  replace NB := news_take NB (by repeat (first | exact sb3 _ (mem_ix 2 rfl) | apply List.Mem.tail)) NB
  have hs3 : ∀ q ∈ fz2, q ∈ fz3 := fun q hq => sb3 _ (mem_dr 4 hq)
  have h31 := sb3 _ (mem_ix 3 rfl)
  refine seg11 prog w loose mean mg mb H rfl (fz := ((K.P, W.listOf pd2.toArray n3) :: (59, tabI2 c1) :: (66, tabD2 c2) :: (K.M, instObj 137 K.d) :: (K.d, K.dict ln tl) :: (L + 1 + 1 + 1 + 1 + 1 + 1 + 1, o7) :: (L + 1 + 1 + 1 + 1 + 1 + 1, o6) :: (L + 1 + 1 + 1 + 1 + 1, o5) :: (L + 1 + 1 + 1, o3) :: (L + 1, o1) :: fz3)) B F X T (by k_extra "NWS") e2 (by repeat (first | exact hRW | apply List.Mem.tail)) (rows_mono hrv fun q hq => by repeat (first | exact hq | apply List.Mem.tail)) d2 D.pI ⟨by omega, hpl.2⟩ (fun kl h => S.perm11 hP tells kl h) ?_
  clear F NB
  intro h tk F NB
  refine seg12 prog w loose mean mg mb H rfl (K := K) (fz := ((59, tabI2 c1) :: (66, tabD2 c2) :: (L + 1 + 1 + 1 + 1 + 1 + 1 + 1, o7) :: (L + 1 + 1 + 1 + 1 + 1 + 1, o6) :: (L + 1 + 1 + 1 + 1 + 1, o5) :: (L + 1, o1) :: fz3)) B F X T (by k_extra "NWS") ⟨by omega, by omega⟩ hch (by repeat' (first | with_reducible assumption | exact True.intro | (refine allNe_cons (by dsimp only; walk_at "SNE") ?_) | (refine allNe_app ?_ ?_) | assumption)) e2 (by repeat (first | exact hRW | apply List.Mem.tail)) (rows_mono hrv fun q hq => by repeat (first | exact hq | apply List.Mem.tail)) d2 d3 D.pI ⟨by omega, hpl.2⟩ hpr hpd2 (by rw [List.length_map, List.length_map, List.length_range]) ?lr (fun kl h => S.line12 hP tells kl h) ?_
  case lr =>
    intro y hy
    obtain ⟨i, hi, rfl⟩ := List.mem_map.mp hy
    have hk := tells.k i (List.mem_range.mp hi)
    refine hpr _ ?_
    have hk2 : KF i < (up sp).length := by rw [List.length_map]; exact hk
    rw [List.getD_eq_getElem?_getD, List.getElem?_eq_getElem hk2]
    exact List.getElem_mem hk2
  clear F NB
  intro n3 h tk F NB
  have hsl : sp.length ≤ 6 := by have := hpl.2; rwa [List.length_map] at this
  have hTW3 := hs3 _ hTW
  have hlv3 := lights_mono hlv2 hs3
  refine seg13 prog w loose mean mg mb H rfl (TW := TW) (fz := ((59, tabI2 c1) :: (66, tabD2 c2) :: (SP, W.listOf pv.toArray pc) :: (L + 1 + 1 + 1 + 1 + 1 + 1 + 1, o7) :: (L + 1 + 1 + 1 + 1 + 1, o5) :: (L + 1 + 1, o2) :: (L + 1, o1) :: fz3)) B F X T (by k_extra "NWS") (by repeat' (first | with_reducible assumption | exact True.intro | (refine allNe_cons (by dsimp only; walk_at "SNE") ?_) | (refine allNe_app ?_ ?_) | assumption)) d6 e1 (by repeat (first | exact hTW3 | apply List.Mem.tail)) (lights_mono hlv3 fun q hq => by repeat (first | exact hq | apply List.Mem.tail)) (by rw [List.length_map, List.length_range]; exact hsl) ?_
  clear F NB d6
  intro LE es ne o6 h tk F NB d6 hes hLE
  refine seg14 prog w loose mean mg mb H rfl (RW := RW) (fz := ((59, tabI2 c1) :: (66, tabD2 c2) :: (SP, W.listOf pv.toArray pc) :: (L + 1 + 1 + 1 + 1 + 1, o5) :: (L + 1 + 1, o2) :: (L + 1, o1) :: fz3)) B F X T (by k_extra "NWS") (by repeat' (first | with_reducible assumption | exact True.intro | (refine allNe_cons (by dsimp only; walk_at "SNE") ?_) | (refine allNe_app ?_ ?_) | assumption)) d6 e2 (by repeat (first | exact hRW | apply List.Mem.tail)) (rows_mono hrv fun q hq => by repeat (first | exact hq | apply List.Mem.tail)) hes (by rw [List.length_map, List.length_range, List.length_map]) hpl.2 (fun i b hb jl h => S.cost14 hP tells i b hb jl h) ?_
  clear F NB a7
  intro CO cv nc fz4 h tk F NB sb4 a7 hCO hcv
  refine ex_1 (show ∃ mm, Fr g L h mm ∧ mm (Str.ofString "twice") = some (.ref TW) ∧ mm (Str.ofString "costs") = some (.ref CO) ∧ mm (Str.ofString "unit") = some (.int (u : Int) t2) from ⟨_, F, (if_neg (by decide)).trans e1, if_pos rfl, (if_neg (by decide)).trans e3⟩) fun mm q9 => ?_; refine and_4 q9 fun F e1 e2 e3 => ?_; clear q9
  replace NB := news_take NB (by repeat (first | exact sb4 _ (.head _) | apply List.Mem.tail)) NB
  replace NB := news_take NB (by repeat (first | exact sb4 _ (.tail _ (.head _)) | apply List.Mem.tail)) NB
  replace NB := news_take NB (by repeat (first | exact sb4 _ (mem_ix 2 rfl) | apply List.Mem.tail)) NB
  replace NB := news_take NB (by repeat (first | exact sb4 _ (mem_ix 3 rfl) | apply List.Mem.tail)) NB
  replace NB := news_take NB (by repeat (first | exact sb4 _ (mem_ix 4 rfl) | apply List.Mem.tail)) NB
  replace NB := news_take NB (by repeat (first | exact sb4 _ (mem_ix 5 rfl) | apply List.Mem.tail)) NB
  have hs4 : ∀ q ∈ fz3, q ∈ fz4 := fun q hq => sb4 _ (mem_dr 6 hq)
  refine seg15 prog w loose mean mg mb H rfl (CO := CO) (cv := cv) (np := (up sp).length) (fz := ((L + 1 + 1 + 1 + 1 + 1 + 1 + 1, o7) :: (59, tabI2 c1) :: (66, tabD2 c2) :: (SP, W.listOf pv.toArray pc) :: (L + 1 + 1 + 1 + 1 + 1, o5) :: (L + 1 + 1, o2) :: (L + 1, o1) :: fz4)) B F X T (by k_extra "NWS") d6 e2 (by repeat (first | exact hCO | apply List.Mem.tail)) (nests_mono hcv fun q hq => by repeat (first | exact hq | apply List.Mem.tail)) (by rw [hes.length, List.length_map, List.length_map, List.length_range, List.length_map]) hpl.2 ?_
  clear F NB
  intro h tk F NB
  have hTW4 := hs4 _ hTW3
  refine seg16 prog w loose mean mg mb H rfl (TW := TW) (fz := ((L + 1 + 1 + 1 + 1 + 1 + 1 + 1, o7) :: (59, tabI2 c1) :: (66, tabD2 c2) :: (SP, W.listOf pv.toArray pc) :: (L + 1 + 1 + 1 + 1 + 1, o5) :: (L + 1 + 1, o2) :: (L + 1, o1) :: fz4)) B F X T (by k_extra "NWS") e1 (by repeat (first | exact hTW4 | apply List.Mem.tail)) (lights_mono hlv3 (fun q hq => by repeat (first | exact hs4 q hq | apply List.Mem.tail))) (by rw [List.length_map, List.length_range]; exact hsl) ?_
  clear F NB
  intro t9 h tk F NB
  rw [S.told hP tells] at F
  refine ex_1 (show ∃ mm, Fr g L h mm ∧ mm (Str.ofString "told") = some (.int (sumG p x0 Tb (M1 * M2 % p) : Int) t9) ∧ mm (Str.ofString "unit") = some (.int (u : Int) t2) from ⟨_, F, if_pos rfl, (if_neg (by decide)).trans e3⟩) fun mm q9 => ?_; refine and_3 q9 fun F e1 e3 => ?_; clear q9
  have ht6 : sumG p x0 Tb (M1 * M2 % p) < 6 := Nat.mod_lt _ (by omega)
  have hlt := Nat.mod_lt (M1 * M2) S.p0
  have hge := Nat.pos_of_ne_zero hP
  have hpw := S.pow17 hP
  have f5 := S.g.f5 _ hlt hge
  have f6 := S.g.f6 _ hlt hge
  have f7 := S.g.f7 _ hlt hge
  generalize sumG p x0 Tb (M1 * M2 % p) = told at e1 ht6 hpw f5 f6 f7
  have hc1' := hs4 _ (hs3 _ hc1)
  have hc2' := hs4 _ (hs3 _ hc2)
  have h153' := hs4 _ (hs3 _ h153)
  have h31' := hs4 _ h31
  refine seg17 prog w loose mean mg mb H rfl (c1 := c1) (c2 := c2) (fz := ((L + 1 + 1 + 1 + 1 + 1 + 1 + 1, o7) :: fz4)) B F X T (by k_extra "NWS") (.tail _ hc1') (.tail _ hc2') h66c hc12 ho1 ho2 e3 e1 d1 d2 d5 hp2 hpu.1.1 hpr0 D.pI hpl.2 ht6 hpu.2 hpw ?_
  clear F NB
  intro h tk F NB
  refine seg18 prog w loose mean mg mb H rfl (c1 := c1) (c2 := c2) (fz := ((59, tabI2 c1) :: (66, tabD2 c2) :: fz4)) B F X T (by k_extra "NWS") (by repeat' (first | with_reducible assumption | exact True.intro | (refine allNe_cons (by dsimp only; walk_at "SNE") ?_) | (refine allNe_app ?_ ?_) | assumption)) (by omega) (mem_dr 2 hc1') (mem_dr 2 hc2') h66c hc12 ho1 ho2 d1 d5 d7 hp2 hpr0 ?_
  clear F NB d7
  intro o7 t7 h tk F NB d7
  rw [fm_nat] at d7
  replace NB := news_take NB (by repeat (first | exact h153' | apply List.Mem.tail)) NB
  replace NB := news_take NB (by repeat (first | exact h31' | apply List.Mem.tail)) NB
  have NN : News g L h ((L + 1 + 1 + 1 + 1 + 1 + 1 + 1, o7) :: (L + 1, o1) :: (153, tabObj ar) :: (66, tabD2 c2) :: (59, tabI2 c1) :: (31, tabIn c) :: []) := by k_extra "NWS"
  have hpe : ((p : Int) - 1).toNat = p - 1 := by omega
  exact law_end prog w loose mean mg mb H rfl rfl B F X T NN d1 d7 hpu.1 e1 ht6 (by rw [hpe, pows_nat]; exact f5) (by rw [hpe, pows_nat]; exact f6) (by rw [hpe, pows_nat]; exact f7) (fun h' tk' m' F' N' => ret h' tk' dr m' _ _ _ _ F' N')
end
end law_walk
theorem law_walk {qual scope} {s0 s1 s2 s3 s4 s5 s6 s7 s8 s9 s10 s11 s12 s13 s14 s15 s16 s17 s18 s19 s20 : Stmt} (H : LawAt w qual scope [s0, s1, s2, s3, s4, s5, s6, s7, s8, s9, s10, s11, s12, s13, s14, s15, s16, s17, s18, s19, s20]) {fa L ss : Addr} {cd : Value} {g : Heap} {s : Shared} {m : Str → Option Value} {Q : Flow → Shared → Prop} {E : Value → Shared → Prop} {vs : List Value} {xs : List Int} {o1 o2 o3 o4 o5 o6 o7 : Obj}
    (hE : PassesOwn (model prog w) (callerA.deeper (envOfC qual scope L fa cd)) (envOfC qual scope L fa cd) E) (B : Below callerA g [] g) (F : Fr g L s.heap (fun y => if y = Str.ofString "script" then some (.ref ss) else m y)) (X : (kf.heap_1 w.params).In g) (T : Top topProg loose mean mg mb g)
    (N : News g L s.heap ((L + 1 + 1 + 1 + 1 + 1 + 1 + 1, o7) :: (L + 1 + 1 + 1 + 1 + 1 + 1, o6) :: (L + 1 + 1 + 1 + 1 + 1, o5) :: (L + 1 + 1 + 1 + 1, o4) :: (L + 1 + 1 + 1, o3) :: (L + 1 + 1, o2) :: (L + 1, o1) :: (153, tabObj #[]) :: (66, tabObj #[]) :: (59, tabObj #[]) :: (31, tabObj #[]) :: [])) (hL : @LT.lt Nat _ 153 L)
    (hss : g.IsList ss vs.toArray) (hI : IntsAre vs xs) (hl : xs.length ≤ 63) (d1 : o1.data = .cell none) (d2 : o2.data = .cell none) (d3 : o3.data = .cell none) (d4 : o4.data = .cell none) (d5 : o5.data = .cell none) (d6 : o6.data = .cell none) (d7 : o7.data = .cell none)
    (ret : ∀ h' tk' dr' m' a1 a2 a3 a4, Fr g L h' m' → News g L h' [(153, tabObj a1), (66, tabObj a2), (59, tabObj a3), (31, tabObj a4)] → Q (.ret (.bool true)) { s with heap := h', toks := tk', drawn := dr' }) :
    wpAny (model prog w) (callerA.deeper (envOfC qual scope L fa cd)) (execs [s0, s1, s2, s3, s4, s5, s6, s7, s8, s9, s10, s11, s12, s13, s14, s15, s16, s17, s18, s19, s20] (envOfC qual scope L fa cd)) Q E s := ((law_walk.spec9 law_walk.core9 ((((((prog, w), loose), ((mean, mg), mb)), (((s0, s1), s2), ((s3, s4), s5))), ((((s6, s7), s8), ((s9, s10), s11)), (((s12, s13), s14), (s15, s16)))), (((((s17, s18), s19), ((s20, fa), L)), (((ss, cd), g), (s, m))), ((((Q, E), vs), ((xs, o1), o2)), (((o3, o4), o5), (o6, o7))))) : law_walk.Claim9 prog w loose mean mg mb s0 s1 s2 s3 s4 s5 s6 s7 s8 s9 s10 s11 s12 s13 s14 s15 s16 s17 s18 s19 s20 fa L ss cd g s m Q E vs xs o1 o2 o3 o4 o5 o6 o7)) qual scope H hE B F X T N hL hss hI hl d1 d2 d3 d4 d5 d6 d7 ret
end
end
theorem kw9_end : True := by
  k_with_none
  trivial
end Mine
section
namespace Mine
theorem main.tw1823645914542658022:True:=⟨⟩
theorem main.tw5401703158475992631:True:=⟨⟩
theorem main.tw7875838824674609581:True:=⟨⟩
theorem main.tw15734200111481486640:True:=⟨⟩
theorem main.tw14672674291997333471:True:=⟨⟩
theorem main.tw6222487380544312443:True:=⟨⟩
theorem main.tw6910295442248876197:True:=⟨⟩
theorem main.tw14722489848711283861:True:=⟨⟩
theorem main.tw9069182735580402390:True:=⟨⟩
theorem main.tw9557352009045844224:True:=⟨⟩
theorem main.tw13676971244355772609:True:=⟨⟩
theorem main.tw330327031418712150:True:=⟨⟩
theorem main.tw14793117695081215449:True:=⟨⟩
theorem main.tw9772175576572683089:True:=⟨⟩
theorem main.tw5665735395497279834:True:=⟨⟩
theorem main.tw1178595665728414349:True:=⟨⟩
theorem main.tw1900339198761634783:True:=⟨⟩
theorem main.tw9272984997812220495:True:=⟨⟩
theorem main.tw16922381011570985944:True:=⟨⟩
theorem main.tw8947760058931562597:True:=⟨⟩
theorem main.tw17477492558424962760:True:=⟨⟩
theorem main.tw12670839924663504800:True:=⟨⟩
theorem main.tw15768048840197415361:True:=⟨⟩
theorem main.tw8475525182357872103:True:=⟨⟩
theorem main.tw3626430660855392483:True:=⟨⟩
theorem main.tw9658885295015712986:True:=⟨⟩
theorem main.tw12057704586751987240:True:=⟨⟩
theorem main.tw3372685494851243017:True:=⟨⟩
theorem main.tw14439473939278146460:True:=⟨⟩
theorem main.tw1157997071576566072:True:=⟨⟩
theorem main.tw14708136634888185200:True:=⟨⟩
theorem main.tw17665120845849184447:True:=⟨⟩
theorem main.tw1513384696819635403:True:=⟨⟩
theorem main.tw13402765919934010277:True:=⟨⟩
theorem main.tw16193401482309157537:True:=⟨⟩
theorem main.tw3343439749351644125:True:=⟨⟩
theorem main.tw1545906260438175962:True:=⟨⟩
theorem main.tw9656510801202774680:True:=⟨⟩
theorem main.tw8455678357921022618:True:=⟨⟩
theorem main.tw9848185148710128376:True:=⟨⟩
theorem main.tw16721930046160240684:True:=⟨⟩
theorem main.tw11815829001073249272:True:=⟨⟩
theorem main.tw66260789543402106:True:=⟨⟩
theorem main.tw10609540516017602915:True:=⟨⟩
theorem main.tw16049902774474827687:True:=⟨⟩
theorem main.tw13642826006792871662:True:=⟨⟩
theorem main.tw15465920861327815835:True:=⟨⟩
theorem main.tw6557543464795787104:True:=⟨⟩
theorem main.tw4681395471914393968:True:=⟨⟩
theorem main.tw8652556701797213591:True:=⟨⟩
theorem main.tw16251939892948500945:True:=⟨⟩
theorem main.tw2538046985915079169:True:=⟨⟩
theorem main.tw16153842264607907944:True:=⟨⟩
theorem main.tw10094358506670053839:True:=⟨⟩
theorem main.tw1777545030009416734:True:=⟨⟩
theorem main.tw15514936471743626214:True:=⟨⟩
theorem main.tw10177057350305019805:True:=⟨⟩
theorem main.tw7761410557224570781:True:=⟨⟩
theorem main.tw6862492499505807319:True:=⟨⟩
theorem main.tw5400957986263281647:True:=⟨⟩
theorem main.tw11710404883906591787:True:=⟨⟩
theorem main.tw13667920496262714385:True:=⟨⟩
theorem main.tw387501639795913443:True:=⟨⟩
theorem main.tw17223442867436993403:True:=⟨⟩
theorem main.tw11982392923317675503:True:=⟨⟩
theorem main.tw750237026923860459:True:=⟨⟩
theorem main.tw5127751686995613262:True:=⟨⟩
theorem main.tw6938871243365370881:True:=⟨⟩
theorem main.tw302440914744352476:True:=⟨⟩
theorem main.tw3779293765908593550:True:=⟨⟩
theorem main.tw16356685582667847594:True:=⟨⟩
theorem main.tw8729708805864041840:True:=⟨⟩
theorem main.tw2238316416991798583:True:=⟨⟩
theorem main.tw3532412968194664532:True:=⟨⟩
theorem main.tw11646826074482590764:True:=⟨⟩
theorem main.tw10363585996791799541:True:=⟨⟩
theorem main.tw16832360635688203351:True:=⟨⟩
theorem main.tw14510055921401542917:True:=⟨⟩
theorem main.tw15342904991969174519:True:=⟨⟩
theorem main.tw10298723112805639129:True:=⟨⟩
theorem main.tw8466321980469482115:True:=⟨⟩
theorem main.tw6044114016751833949:True:=⟨⟩
theorem main.tw18315214858253571532:True:=⟨⟩
theorem main.tw12518504611687188807:True:=⟨⟩
theorem main.tw9976160756891316704:True:=⟨⟩
theorem main.tw15131278010643852716:True:=⟨⟩
theorem main.tw17450470499104002142:True:=⟨⟩
theorem main.tw10877679251791092727:True:=⟨⟩
theorem main.tw9563168847844234846:True:=⟨⟩
theorem main.tw11461230924637031220:True:=⟨⟩
theorem main.tw3570300971023340979:True:=⟨⟩
theorem main.tw15624239662980076321:True:=⟨⟩
theorem main.tw11554813239044494598:True:=⟨⟩
theorem main.tw3045742163950154196:True:=⟨⟩
theorem main.tw14362440506768752361:True:=⟨⟩
theorem main.tw5203219222101121401:True:=⟨⟩
theorem main.tw6334894449686545209:True:=⟨⟩
theorem main.tw10669944970481658594:True:=⟨⟩
theorem main.tw18218335207050127959:True:=⟨⟩
theorem main.tw4544244032028310869:True:=⟨⟩
theorem main.tw15803610866087392283:True:=⟨⟩
theorem main.tw33456957511925785:True:=⟨⟩
theorem main.tw7268301785047649679:True:=⟨⟩
theorem main.tw7235775444256392728:True:=⟨⟩
theorem main.tw7186131708394509389:True:=⟨⟩
theorem main.tw1409966394225722968:True:=⟨⟩
theorem main.tw6697339332421208802:True:=⟨⟩
theorem main.tw17695171507069755227:True:=⟨⟩
theorem main.tw11544348965984651327:True:=⟨⟩
theorem main.tw15649996292582860464:True:=⟨⟩
theorem main.tw13224007501803129859:True:=⟨⟩
theorem main.tw7308723440029596264:True:=⟨⟩
theorem main.tw16320729459185622934:True:=⟨⟩
theorem main.tw1277820614484962519:True:=⟨⟩
theorem main.tw9498315638749924794:True:=⟨⟩
theorem main.tw1444470235128671497:True:=⟨⟩
theorem main.tw15270170921892066516:True:=⟨⟩
theorem main.tw9840939614602229412:True:=⟨⟩
theorem main.tw16572128252103988241:True:=⟨⟩
theorem main.tw5102693214775723256:True:=⟨⟩
theorem main.tw8478376212529829071:True:=⟨⟩
theorem main.tw4605139254293405059:True:=⟨⟩
theorem main.tw2906824675625879941:True:=⟨⟩
theorem main.tw18134284020713443437:True:=⟨⟩
theorem main.tw15734660467963936456:True:=⟨⟩
theorem main.tw10234815189450012239:True:=⟨⟩
theorem main.tw12361340156312767134:True:=⟨⟩
theorem main.tw12455012482086183272:True:=⟨⟩
theorem main.tw8663697691656813868:True:=⟨⟩
theorem main.tw1677766988990989824:True:=⟨⟩
theorem main.tw6162249291895867263:True:=⟨⟩
theorem main.tw1615956725737779560:True:=⟨⟩
theorem main.tw104360540948158410:True:=⟨⟩
theorem main.tw14771111431291430275:True:=⟨⟩
theorem main.tw8440099810896429113:True:=⟨⟩
theorem main.tw5613160597433933154:True:=⟨⟩
theorem main.tw4324958949535026087:True:=⟨⟩
theorem main.tw5396188567872606041:True:=⟨⟩
theorem main.tw2496676261509829067:True:=⟨⟩
theorem main.tw6785657489111691699:True:=⟨⟩
theorem main.tw16923884221124529275:True:=⟨⟩
theorem main.tw5436791530062809996:True:=⟨⟩
theorem main.tw4500915450034043215:True:=⟨⟩
theorem main.tw14907226015203709474:True:=⟨⟩
theorem main.tw7380652910202371479:True:=⟨⟩
theorem main.tw17118054049896295152:True:=⟨⟩
theorem main.tw1270039299266317192:True:=⟨⟩
theorem main.tw17974016328880235120:True:=⟨⟩
theorem main.tw4775608329324902142:True:=⟨⟩
theorem main.tw10707853282979444102:True:=⟨⟩
theorem main.tw10821422270917381399:True:=⟨⟩
theorem main.tw13110577991587790113:True:=⟨⟩
theorem main.tw4900431672193113347:True:=⟨⟩
theorem main.tw16519101796099990279:True:=⟨⟩
theorem main.tw16008252555379753968:True:=⟨⟩
theorem main.tw18332899500509843999:True:=⟨⟩
theorem main.tw9925469786538053656:True:=⟨⟩
theorem main.tw9376575566392132001:True:=⟨⟩
theorem main.tw11221353774195762014:True:=⟨⟩
theorem main.tw10876375607700338302:True:=⟨⟩
theorem main.tw1678875084529416142:True:=⟨⟩
theorem main.tw2724176850512262202:True:=⟨⟩
theorem main.tw9302470337196694018:True:=⟨⟩
theorem main.tw2287757881348798766:True:=⟨⟩
theorem main.tw9730157408454304684:True:=⟨⟩
theorem main.tw6361450105264607166:True:=⟨⟩
theorem main.tw2852251193174398662:True:=⟨⟩
theorem main.tw16452447596832230105:True:=⟨⟩
theorem main.tw17561526911342447988:True:=⟨⟩
theorem main.tw13777938177461255882:True:=⟨⟩
theorem main.tw14457758005677747962:True:=⟨⟩
theorem main.tw4261964983698606537:True:=⟨⟩
theorem main.tw1504049600530537962:True:=⟨⟩
theorem main.tw2019394398466159022:True:=⟨⟩
theorem main.tw5084117380071580128:True:=⟨⟩
theorem main.tw15485851114877660061:True:=⟨⟩
theorem main.tw451873465583785326:True:=⟨⟩
theorem main.tw13219505800766818778:True:=⟨⟩
theorem main.tw1632041292262086317:True:=⟨⟩
theorem main.tw11101190512080308003:True:=⟨⟩
theorem main.tw2821470743931037460:True:=⟨⟩
theorem main.tw16778611742570070204:True:=⟨⟩
theorem main.tw17120147093228096131:True:=⟨⟩
theorem main.tw5585478044538960755:True:=⟨⟩
theorem main.tw9268297945177815525:True:=⟨⟩
theorem main.tw2406621943657119228:True:=⟨⟩
theorem main.tw6511744376749373798:True:=⟨⟩
theorem main.tw10450603732522932521:True:=⟨⟩
theorem main.tw8514353633121059139:True:=⟨⟩
theorem fr_bind {g h : Heap} {L : Addr} {k : Str → Option NameKind} {n : Str} {v : Value} {m : Str → Option Value} (F : Fr g L h (bindL k [(n, v)] m)) (hk : k n = some .local) : Fr g L h (fun y => if y = n then some v else m y) := by
  have e : bindL k [(n, v)] m = fun y => if y = n then some v else m y := by unfold bindL; rw [if_pos hk]; unfold bindL; rfl
  rwa [e] at F
set_option Elab.async true in
theorem main : PySem.Challenge.rw_sh0047_01.Holds := by
  (w_on; o_law; o_head (kmHook Mine.kf.heap_1 (2::3::15::17::18::20::21::22::23::25::26::28::29::30::32::33::35::36::37::39::40::42::43::44::46::47::49::50::51::53::54::56::57::58::60::61::63::64::65::67::68::70::71::72::74::75::77::78::79::81::82::84::85::86::88::89::91::92::93::95::96::98::99::107::109::110::112::113::114::116::117::119::120::121::123::124::126::127::128::130::131::133::134::135::136::137::138::139::142::145::146::147::150::151::152::154::155::157::158::159::161::162::164::165::166::169::170::171::173::174::176::177::178::180::181::183::184::185::188::189::190::192::193::195::196::197::199::200::202::203::204::207::208::[]) (fun _ => by kernel_rfl) [153, 66, 59, 31]); (case hw => w_witness2))
  (k_go0; (all_goals (try k_fold)))
  rename Fr _ _ _ _ => FF
  rename Below _ _ _ _ => BB
  rename Top topProg _ _ _ _ _ => TT
  rename Frag.In _ _ => XX
  rename News _ _ _ _ => NN
  rename IntsAre _ _ => II
  rename 153 < _ ∧ _ => LL
  rename _ = #[] => GG
  refine law_walk _ _ _ _ _ _ ?law_HL ?law_hE BB (fr_bind FF ?law_hk) XX TT NN LL.1 (by assumption) II ?law_hl ?law_d1 ?law_d2 ?law_d3 ?law_d4 ?law_d5 ?law_d6 ?law_d7 ?law_ret
  case law_HL => exact ⟨_, _, _, _, _, _, _, _, _, _, _, _, by k_is⟩
  case law_hE => passes_own
  case law_hk => rfl
  case law_hl => omega
  case law_d1 => assumption
  case law_d2 => assumption
  case law_d3 => assumption
  case law_d4 => assumption
  case law_d5 => assumption
  case law_d6 => assumption
  case law_d7 => assumption
  case law_ret =>
    intro h' tk' dr' m' a1 a2 a3 a4 F' N'
    refine ⟨goodW_bool F' GG (raisesW_false ?_) ?_, .of N' (.head _), .of N' (.tail _ (.head _)), .of N' (.tail _ (.tail _ (.head _))), .of N' (.tail _ (.tail _ (.tail _ (.head _)))), trivial⟩
    · wrow_none_raised
    · wrow_post
end Mine
end
theorem PySem.Challenge.cw_sh0047_01_holds : PySem.Challenge.rw_sh0047_01.Holds := by
  exact Mine.main
