import PyProof.Rows.All
import Wide.All
import OpenK.AllK
import Wide.FinOn
import Lean
import PySem.Challenge.RW_il0140_01
set_option Elab.async false
set_option linter.all false
set_option compiler.extract_closed false
set_option maxRecDepth 100000

-- A1
namespace Mine
open PySem PySem.W PyProof.Rows PySem.SeqAt

def nv (fl : Bool) : Value → Option Int
  | .int i _ => if fl then none else some i
  | .float b t => if fl && decide (b.toNat < Float64.infMag) && t != 0 then some (b.toNat : Int) else none
  | _ => none

theorem decode_good {b : UInt64} (h : b.toNat < Float64.infMag) :
    Float64.decode b = if b.toNat / 2 ^ 52 = 0 then .fin false (b.toNat % 2 ^ 52) (-1074) else .fin false (2 ^ 52 + b.toNat % 2 ^ 52) ((b.toNat / 2 ^ 52 : Nat) - 1075) := by
  have hm : Float64.infMag = 2047 * 2 ^ 52 := rfl
  rw [hm] at h
  have h1 : b.toNat / 2 ^ 63 = 0 := by lia
  have h2 : b.toNat / 2 ^ 52 < 2047 := by lia
  have h3 : b.toNat / 2 ^ 52 % 2048 = b.toNat / 2 ^ 52 := by lia
  unfold Float64.decode
  simp only [h1, h3]
  have h4 : (b.toNat / 2 ^ 52 == 2047) = false := by simp; lia
  simp only [h4]
  by_cases h5 : b.toNat / 2 ^ 52 = 0
  · simp [h5]
  · simp [h5]

def mag (n : Nat) : Nat := if n / 2 ^ 52 = 0 then n % 2 ^ 52 else (2 ^ 52 + n % 2 ^ 52) * 2 ^ (n / 2 ^ 52 - 1)
theorem mag_lt {m n : Nat} (h : m < n) : mag m < mag n := by
  unfold mag
  have hm := Nat.div_add_mod m (2 ^ 52)
  have hn := Nat.div_add_mod n (2 ^ 52)
  have lm := Nat.mod_lt m (show 0 < 2 ^ 52 by decide)
  have ln := Nat.mod_lt n (show 0 < 2 ^ 52 by decide)
  generalize m / 2 ^ 52 = a at *
  generalize m % 2 ^ 52 = x at *
  generalize n / 2 ^ 52 = b at *
  generalize n % 2 ^ 52 = y at *
  have hab : a ≤ b := by lia
  by_cases ha : a = 0
  · subst ha
    by_cases hb : b = 0
    · subst hb; simp; lia
    · simp [hb]
      have : 1 ≤ 2 ^ (b - 1) := Nat.one_le_two_pow
      calc x < 2 ^ 52 + y := by lia
        _ = (2 ^ 52 + y) * 1 := by lia
        _ ≤ (2 ^ 52 + y) * 2 ^ (b - 1) := Nat.mul_le_mul_left _ this
  · have hb : b ≠ 0 := by lia
    simp only [ha, hb, if_false]
    by_cases he : a = b
    · subst he
      have : x < y := by lia
      exact Nat.mul_lt_mul_of_pos_right (by lia) (Nat.two_pow_pos _)
    · have e : 2 ^ (b - 1) = 2 ^ (a - 1) * 2 ^ (b - a) := by rw [← Nat.pow_add]; congr 1; lia
      have h2 : 2 ≤ 2 ^ (b - a) := by
        have : 2 ^ 1 ≤ 2 ^ (b - a) := Nat.pow_le_pow_right (by decide) (by lia)
        simpa using this
      calc (2 ^ 52 + x) * 2 ^ (a - 1) < (2 ^ 53) * 2 ^ (a - 1) := Nat.mul_lt_mul_of_pos_right (by lia) (Nat.two_pow_pos _)
        _ ≤ ((2 ^ 52 + y) * 2 ^ (b - a)) * 2 ^ (a - 1) := Nat.mul_le_mul_right _ (by
            calc 2 ^ 53 = 2 ^ 52 * 2 := by decide
              _ ≤ (2 ^ 52 + y) * 2 ^ (b - a) := Nat.mul_le_mul (by lia) h2)
        _ = (2 ^ 52 + y) * 2 ^ (b - 1) := by rw [e]; ac_rfl

theorem align_cmp (m k : Nat) (e f : Int) (he : -1074 ≤ e) (hf : -1074 ≤ f) :
    compare (Float64.align false m e false k f).1 (Float64.align false m e false k f).2.1 = compare (m * 2 ^ (e + 1074).toNat) (k * 2 ^ (f + 1074).toNat) := by
  unfold Float64.align Float64.sgn
  simp only [Bool.false_eq_true, if_false]
  obtain ⟨a, rfl⟩ : ∃ a : Nat, e = (a : Int) - 1074 := ⟨(e + 1074).toNat, by lia⟩
  obtain ⟨b, rfl⟩ : ∃ b : Nat, f = (b : Int) - 1074 := ⟨(f + 1074).toNat, by lia⟩
  have e1 : ((a : Int) - 1074 + 1074).toNat = a := by lia
  have e2 : ((b : Int) - 1074 + 1074).toNat = b := by lia
  rw [e1, e2]
  have key : ∀ (c : Nat), c ≤ a → c ≤ b → min ((a : Int) - 1074) ((b : Int) - 1074) = (c : Int) - 1074 →
      compare ((m * 2 ^ ((a : Int) - 1074 - min ((a : Int) - 1074) ((b : Int) - 1074)).toNat : Nat) : Int) ((k * 2 ^ ((b : Int) - 1074 - min ((a : Int) - 1074) ((b : Int) - 1074)).toNat : Nat) : Int) = compare (m * 2 ^ a) (k * 2 ^ b) := by
    intro c ca cb hc
    rw [hc]
    have q1 : ((a : Int) - 1074 - ((c : Int) - 1074)).toNat = a - c := by lia
    have q2 : ((b : Int) - 1074 - ((c : Int) - 1074)).toNat = b - c := by lia
    rw [q1, q2]
    have p1 : m * 2 ^ a = (m * 2 ^ (a - c)) * 2 ^ c := by rw [Nat.mul_assoc, ← Nat.pow_add]; congr 2; lia
    have p2 : k * 2 ^ b = (k * 2 ^ (b - c)) * 2 ^ c := by rw [Nat.mul_assoc, ← Nat.pow_add]; congr 2; lia
    rw [p1, p2]
    generalize m * 2 ^ (a - c) = X
    generalize k * 2 ^ (b - c) = Y
    have hp : 0 < 2 ^ c := Nat.two_pow_pos _
    rcases Nat.lt_trichotomy X Y with h | h | h
    · have h' : X * 2 ^ c < Y * 2 ^ c := Nat.mul_lt_mul_of_pos_right h hp
      rw [Nat.compare_eq_lt.mpr h']; rw [Int.compare_eq_lt.mpr (by lia)]
    · subst h; rw [Nat.compare_eq_eq.mpr rfl, Int.compare_eq_eq.mpr rfl]
    · have h' : Y * 2 ^ c < X * 2 ^ c := Nat.mul_lt_mul_of_pos_right h hp
      rw [Nat.compare_eq_gt.mpr h']; rw [Int.compare_eq_gt.mpr (by lia)]
  rcases Nat.le_total a b with h | h
  · exact key a (Nat.le_refl _) h (by lia)
  · exact key b h (Nat.le_refl _) (by lia)

theorem cmp_good {a b : UInt64} (ha : a.toNat < Float64.infMag) (hb : b.toNat < Float64.infMag) : Float64.cmp a b = some (compare a.toNat b.toNat) := by
  have key : ∀ n : Nat, ∀ (hn : n < Float64.infMag), ∃ m e, (if n / 2 ^ 52 = 0 then Float64.Num.fin false (n % 2 ^ 52) (-1074) else .fin false (2 ^ 52 + n % 2 ^ 52) ((n / 2 ^ 52 : Nat) - 1075)) = .fin false m e ∧ -1074 ≤ e ∧ m * 2 ^ (e + 1074).toNat = mag n := by
    intro n hn
    unfold mag
    by_cases h : n / 2 ^ 52 = 0
    · refine ⟨_, _, by rw [if_pos h], by lia, ?_⟩
      rw [if_pos h]; simp
    · refine ⟨_, _, by rw [if_neg h], by lia, ?_⟩
      rw [if_neg h]; congr 2; lia
  obtain ⟨m, e, h1, h2, h3⟩ := key _ ha
  obtain ⟨k, f, g1, g2, g3⟩ := key _ hb
  unfold Float64.cmp
  rw [decode_good ha, decode_good hb, h1, g1]
  dsimp only
  have q := align_cmp m k e f h2 g2
  rw [h3, g3] at q
  rw [q]
  congr 1
  rcases Nat.lt_trichotomy a.toNat b.toNat with h | h | h
  · rw [Nat.compare_eq_lt.mpr h, Nat.compare_eq_lt.mpr (mag_lt h)]
  · rw [h, Nat.compare_eq_eq.mpr rfl, Nat.compare_eq_eq.mpr rfl]
  · rw [Nat.compare_eq_gt.mpr h, Nat.compare_eq_gt.mpr (mag_lt h)]
end Mine

-- A2
namespace Mine
open PySem PySem.W PyProof.Rows PySem.SeqAt
open AutoSeq1 (wpAny_loadPart')
open MeetsSeq MeetsSeq2 MeetsSeq3 SeqRoads2

section
variable {M : Model} {A : Around} {E : Value → Shared → Prop} {s : Shared}
theorem isSame_floats {p q : UInt64} {t u : Tok} {Q : Bool → Shared → Prop} (ht : t ≠ 0) (hu : u ≠ 0) (hb : NoneBooked s.heap) (hpq : t = u → p = q)
    (h1 : p = q → ∀ b, Q b s) (h2 : p ≠ q → Q false s) : wpAny M A (isSame (.float p t) (.float q u)) Q E s := by
  show wpAny M A (isSame.created (p == q && !Float64.isNaN p) t u) Q E s
  unfold isSame.created
  refine wpAny_ite ?_
  split
  · rename_i h; simp [ht, hu] at h
  refine wpAny_ite ?_
  split
  · rename_i h; exact wpAny_pure (h1 (hpq (by simpa using h)) _)
  refine wpAny_ite ?_
  split
  · rename_i h
    by_cases e : p = q
    · exact wpAny_pure (h1 e _)
    · exact wpAny_pure (h2 e)
  · rename_i h
    have e : p = q := by
      have : (p == q && !Float64.isNaN p) = true := by simpa using h
      simp only [Bool.and_eq_true, beq_iff_eq] at this
      exact this.1
    refine wpAny_bind (wpAny_sharingNotTold_none hb ?_)
    first | rw [if_neg Bool.false_ne_true] | simp only [Bool.false_eq_true, if_false]
    refine wpAny_bind (wpAny_sharingNotTold_none hb ?_)
    first | rw [if_neg Bool.false_ne_true] | simp only [Bool.false_eq_true, if_false]
    exact wpAny_bind (wpAny_rule (wpAny_bind (wpAny_askSetting (wpAny_pure (h1 e _)))))
end
end Mine

-- A3
namespace Mine
open PySem PySem.W PyProof.Rows PySem.SeqAt PySem.Calls

abbrev Led := List (Addr × Obj)
abbrev Tks := List (Nat × UInt64)
abbrev Ctx := Led × Tks
abbrev NMap := Str → Option Value
abbrev Ad := Addr
abbrev Ob := Obj
abbrev Vl := Value

abbrev tupO (xs : List Value) : Obj := { cls := .type "tuple", data := .seq xs.toArray }
abbrev lstO (xs : List Value) (n : Nat) : Obj := { cls := .type "list", data := .seq xs.toArray n }

structure St (h₀ : Heap) (L : Addr) (s₀ : Shared) (m : NMap) (G : Ctx) (s : Shared) : Prop where
  F : Fr h₀ L s.heap m
  N : News h₀ L s.heap G.1
  K : ∀ p ∈ G.2, 0 < p.1 ∧ p.1 < s.toks ∧ ∀ q ∈ G.2, q.1 = p.1 → q.2 = p.2
  pos : 0 < s.toks
  same : ∃ h tk, s = { s₀ with heap := h, toks := tk }

structure Gr (G G' : Ctx) : Prop where
  a : ∀ p ∈ G.1, p ∈ G'.1
  b : ∀ p ∈ G.2, p ∈ G'.2
theorem Gr.rfl {G : Ctx} : Gr G G := ⟨fun _ h => h, fun _ h => h⟩
theorem Gr.trans {G G' G'' : Ctx} (h : Gr G G') (k : Gr G' G'') : Gr G G'' := ⟨fun p hp => k.a p (h.a p hp), fun p hp => k.b p (h.b p hp)⟩
theorem Gr.obj {G : Ctx} {p : Addr × Obj} : Gr G (p :: G.1, G.2) := ⟨fun _ h => .tail _ h, fun _ h => h⟩
structure GrB (l : List Addr) (G G' : Ctx) : Prop where
  a : ∀ p ∈ G.1, p.1 ∉ l → p ∈ G'.1
  b : ∀ p ∈ G.2, p ∈ G'.2
theorem GrB.of {l : List Addr} {G G' : Ctx} (h : Gr G G') : GrB l G G' := ⟨fun p hp _ => h.a p hp, h.b⟩
theorem GrB.trans {l : List Addr} {G G' G'' : Ctx} (h : GrB l G G') (k : GrB l G' G'') : GrB l G G'' := ⟨fun p hp n => k.a p (h.a p hp n) n, fun p hp => k.b p (h.b p hp)⟩

section
variable {h₀ : Heap} {L : Addr} {s₀ s s' : Shared} {m m' : NMap} {G G' : Ctx}
theorem St.get (S : St h₀ L s₀ m G s) {a : Addr} {o : Obj} (h : (a, o) ∈ G.1) : s.heap.get? a = some o := (S.N _ h).1
theorem St.neL (S : St h₀ L s₀ m G s) {a : Addr} {o : Obj} (h : (a, o) ∈ G.1) : a ≠ L := (S.N _ h).2.1
theorem St.new (S : St h₀ L s₀ m G s) {a : Addr} {o : Obj} (h : (a, o) ∈ G.1) : h₀.get? a = none := (S.N _ h).2.2
theorem St.fn (S : St h₀ L s₀ m G s) {a : Addr} {o o' : Obj} (h : (a, o) ∈ G.1) (h' : (a, o') ∈ G.1) : o = o' := by
  have e1 := S.get h
  have e2 := S.get h'
  rw [e1] at e2; exact Option.some.inj e2
theorem St.mono (S : St h₀ L s₀ m G s) (g : Gr G' G) : St h₀ L s₀ m G' s :=
  ⟨S.F, fun p hp => S.N p (g.a p hp), fun p hp => ⟨(S.K p (g.b p hp)).1, (S.K p (g.b p hp)).2.1, fun q hq => (S.K p (g.b p hp)).2.2 q (g.b q hq)⟩, S.pos, S.same⟩
theorem St.toks (S : St h₀ L s₀ m G s) {n : Nat} (hn : s.toks ≤ n) : St h₀ L s₀ m G { s with toks := n } := by
  obtain ⟨F, N, K, P, ⟨h, tk, rfl⟩⟩ := S
  exact ⟨F, N, fun p hp => ⟨(K p hp).1, Nat.lt_of_lt_of_le (K p hp).2.1 hn, (K p hp).2.2⟩, Nat.lt_of_lt_of_le P hn, ⟨h, n, rfl⟩⟩
theorem St.heap (S : St h₀ L s₀ m G s) {h' : Heap} (F : Fr h₀ L h' m') (N : News h₀ L h' G'.1) (e : G'.2 = G.2) : St h₀ L s₀ m' G' { s with heap := h' } := by
  obtain ⟨_, _, K, P, ⟨h, tk, rfl⟩⟩ := S
  exact ⟨F, N, by rw [e]; exact K, P, ⟨h', tk, rfl⟩⟩
theorem St.both (S : St h₀ L s₀ m G s) {h' : Heap} {n : Nat} (F : Fr h₀ L h' m') (N : News h₀ L h' G'.1) (e : G'.2 = G.2) (hn : s.toks ≤ n) : St h₀ L s₀ m' G' { s with heap := h', toks := n } :=
  (S.heap F N e).toks hn
theorem St.tok (S : St h₀ L s₀ m G s) (b : UInt64) : St h₀ L s₀ m (G.1, (s.toks, b) :: G.2) { s with toks := s.toks + 1 } := by
  obtain ⟨F, N, K, P, ⟨h, tk, rfl⟩⟩ := S
  refine ⟨F, N, fun p hp => ?_, Nat.succ_pos _, ⟨h, tk + 1, rfl⟩⟩
  rcases List.mem_cons.mp hp with rfl | hp
  · refine ⟨P, Nat.lt_succ_self _, fun q hq e => ?_⟩
    rcases List.mem_cons.mp hq with rfl | hq
    · rfl
    · exact absurd (K q hq).2.1 (by rw [e]; exact Nat.lt_irrefl _)
  · refine ⟨(K p hp).1, Nat.lt_succ_of_lt (K p hp).2.1, fun q hq e => ?_⟩
    rcases List.mem_cons.mp hq with rfl | hq
    · exact absurd (K p hp).2.1 (by rw [← e]; exact Nat.lt_irrefl _)
    · exact (K p hp).2.2 q hq e
end

inductive All2 {α β : Type} (R : α → β → Prop) : List α → List β → Prop
  | nil : All2 R [] []
  | cons {x y xs ys} : R x y → All2 R xs ys → All2 R (x :: xs) (y :: ys)
namespace All2
variable {α β : Type} {R R' : α → β → Prop}
theorem length : ∀ {xs ys}, All2 R xs ys → xs.length = ys.length
  | _, _, .nil => rfl
  | _, _, .cons _ h => by simp [h.length]
theorem mono (f : ∀ x y, R x y → R' x y) : ∀ {xs ys}, All2 R xs ys → All2 R' xs ys
  | _, _, .nil => .nil
  | _, _, .cons a h => .cons (f _ _ a) (h.mono f)
theorem append : ∀ {xs ys us vs}, All2 R xs ys → All2 R us vs → All2 R (xs ++ us) (ys ++ vs)
  | _, _, _, _, .nil, k => k
  | _, _, _, _, .cons a h, k => .cons a (h.append k)
theorem get : ∀ {xs ys}, All2 R xs ys → ∀ (i : Nat) (h : i < xs.length) (h' : i < ys.length), R xs[i] ys[i]
  | _, _, .cons a _, 0, _, _ => a
  | _, _, .cons _ r, i + 1, h, h' => r.get i (by simpa using h) (by simpa using h')
theorem of_get : ∀ {xs : List α} {ys : List β}, xs.length = ys.length → (∀ (i : Nat) (h : i < xs.length) (h' : i < ys.length), R xs[i] ys[i]) → All2 R xs ys
  | [], [], _, _ => .nil
  | [], _ :: _, h, _ => by simp at h
  | _ :: _, [], h, _ => by simp at h
  | x :: xs, y :: ys, h, k => .cons (k 0 (by simp) (by simp)) (of_get (by simpa using h) fun i h1 h2 => k (i + 1) (by simpa using h1) (by simpa using h2))
theorem getq {xs ys} (h : All2 R xs ys) {i : Nat} {y : β} (e : ys[i]? = some y) : ∃ x, xs[i]? = some x ∧ R x y := by
  obtain ⟨hi, rfl⟩ := List.getElem?_eq_some_iff.mp e
  have hi' : i < xs.length := by rw [h.length]; exact hi
  exact ⟨xs[i], by simp [hi'], h.get i hi' hi⟩
theorem getq' {xs ys} (h : All2 R xs ys) {i : Nat} {x : α} (e : xs[i]? = some x) : ∃ y, ys[i]? = some y ∧ R x y := by
  obtain ⟨hi, rfl⟩ := List.getElem?_eq_some_iff.mp e
  have hi' : i < ys.length := by rw [← h.length]; exact hi
  exact ⟨ys[i], by simp [hi'], h.get i hi hi'⟩
theorem mem {xs ys} (h : All2 R xs ys) {x : α} (hx : x ∈ xs) : ∃ y ∈ ys, R x y := by
  obtain ⟨i, hi, rfl⟩ := List.mem_iff_getElem.mp hx
  have hi' : i < ys.length := by rw [← h.length]; exact hi
  exact ⟨ys[i], List.getElem_mem hi', h.get i hi hi'⟩
theorem take {xs ys} (h : All2 R xs ys) (n : Nat) : All2 R (xs.take n) (ys.take n) := by
  induction h generalizing n with
  | nil => simp; exact .nil
  | cons a r ih => cases n with
    | zero => exact .nil
    | succ n => exact .cons a (ih n)
theorem drop {xs ys} (h : All2 R xs ys) (n : Nat) : All2 R (xs.drop n) (ys.drop n) := by
  induction h generalizing n with
  | nil => simp; exact .nil
  | cons a r ih => cases n with
    | zero => exact .cons a r
    | succ n => exact ih n
end All2

def NV (fl : Bool) (T : Tks) (v : Value) (x : Int) : Prop :=
  if fl then ∃ (b : UInt64) (t : Nat), v = .float b t ∧ (t, b) ∈ T ∧ b.toNat < Float64.infMag ∧ x = (b.toNat : Int) else ∃ t, v = .int x t
theorem NV.int {T : Tks} {x : Int} {t : Nat} : NV false T (.int x t) x := ⟨t, rfl⟩
theorem NV.flt {T : Tks} {b : UInt64} {t : Nat} (h : (t, b) ∈ T) (hb : b.toNat < Float64.infMag) : NV true T (.float b t) (b.toNat : Int) := ⟨b, t, rfl, h, hb, rfl⟩
theorem NV.mono {fl : Bool} {T T' : Tks} (hs : ∀ p ∈ T, p ∈ T') {v : Value} {x : Int} (h : NV fl T v x) : NV fl T' v x := by
  cases fl with
  | false => exact h
  | true => obtain ⟨b, t, h1, h2, h3⟩ := h; exact ⟨b, t, h1, hs _ h2, h3⟩

def TV (fl : Bool) (G : Ctx) (v : Value) (d : List Int) : Prop := ∃ a xs, v = .ref a ∧ (a, tupO xs) ∈ G.1 ∧ All2 (NV fl G.2) xs d
def LV (fl : Bool) (G : Ctx) (l : Addr) (ds : List (List Int)) : Prop := ∃ vs n, (l, lstO vs n) ∈ G.1 ∧ All2 (TV fl G) vs ds
theorem TV.mono {fl : Bool} {G G' : Ctx} (g : Gr G G') {v : Value} {d : List Int} (h : TV fl G v d) : TV fl G' v d := by
  obtain ⟨a, xs, h1, h2, h3⟩ := h
  exact ⟨a, xs, h1, g.a _ h2, h3.mono fun _ _ => NV.mono g.b⟩
theorem LV.mono {fl : Bool} {G G' : Ctx} (g : Gr G G') {l : Addr} {ds : List (List Int)} (h : LV fl G l ds) : LV fl G' l ds := by
  obtain ⟨vs, n, h1, h2⟩ := h
  exact ⟨vs, n, g.a _ h1, h2.mono fun _ _ => TV.mono g⟩
theorem tup_ne_lst {xs ys : List Value} {n : Nat} : tupO xs ≠ lstO ys n := by
  intro h
  have := congrArg Obj.cls h
  simp at this
theorem St.isTuple {h₀ : Heap} {L : Addr} {s₀ s : Shared} {m : NMap} {G : Ctx} (S : St h₀ L s₀ m G s) {a : Addr} {xs : List Value} (h : (a, tupO xs) ∈ G.1) : s.heap.IsTuple a xs.toArray := ⟨_, S.get h, rfl, 0, rfl⟩
theorem St.isList {h₀ : Heap} {L : Addr} {s₀ s : Shared} {m : NMap} {G : Ctx} (S : St h₀ L s₀ m G s) {a : Addr} {xs : List Value} {n : Nat} (h : (a, lstO xs n) ∈ G.1) : s.heap.IsList a xs.toArray := ⟨_, S.get h, rfl, n, rfl⟩
end Mine

-- A4
namespace Mine
open PySem PySem.W PyProof.Rows PySem.SeqAt PySem.Calls
open AutoSeq1 (wpAny_loadPart')
open MeetsSeq MeetsSeq2 MeetsSeq3 SeqRoads2

def TkOk (T : Tks) : Prop := ∀ p ∈ T, 0 < p.1 ∧ ∀ q ∈ T, q.1 = p.1 → q.2 = p.2
theorem St.tkOk {h₀ : Heap} {L : Addr} {s₀ s : Shared} {m : NMap} {G : Ctx} (S : St h₀ L s₀ m G s) : TkOk G.2 := fun p hp => ⟨(S.K p hp).1, (S.K p hp).2.2⟩

theorem eq_scalar {fl : Bool} {T : Tks} {A : Around} {s : Shared} {v u : Value} {x y : Int} (hT : TkOk T) (hb : NoneBooked s.heap) (hv : NV fl T v x) (hu : NV fl T u y) : EqAt A s v u (decide (x = y)) := by
  cases fl with
  | false =>
    obtain ⟨t, rfl⟩ := hv
    obtain ⟨t', rfl⟩ := hu
    have := (EqGives.int x y t t').at A s
    have e : (x == y) = decide (x = y) := rfl
    rw [e] at this; exact this
  | true =>
    obtain ⟨p, t, rfl, ht, hp, rfl⟩ := hv
    obtain ⟨q, t', rfl, ht', hq, rfl⟩ := hu
    intro prog w E Q h
    have hbits : ∀ {a b : UInt64}, ((a.toNat : Int) = (b.toNat : Int)) → a = b := fun e => UInt64.toNat_inj.mp (by lia)
    unfold eqBool
    refine wpAny_holding ?_
    refine wpAny_ite_split (fun hab => ?_) (fun _ => ?_)
    · have e := eq_of_beq hab
      injection e with e1 e2
      subst e1
      rw [decide_eq_true (by rfl)] at h
      exact wpAny_bind (wpAny_rule (wpAny_pure h))
    · show wpAny _ A (isSame (.float p t) (.float q t') >>= _) Q E s
      refine wpAny_bind (isSame_floats (Nat.ne_of_gt (hT _ ht).1) (Nat.ne_of_gt (hT _ ht').1) hb (fun e => ((hT _ ht).2 _ ht' e.symm).symm) (fun e b => ?_) (fun e => ?_))
      · subst e
        rw [decide_eq_true (by rfl)] at h
        cases b with
        | true => exact wpAny_pure h
        | false =>
          refine wpAny_bind (AutoFloatOps.eq_0 ?_)
          rw [cmp_good hp hp, Nat.compare_eq_eq.mpr rfl]
          exact wpAny_truthy_bool h
      · rw [decide_eq_false (fun e' => e (hbits e'))] at h
        show wpAny _ A (richCompare .Eq (.float p t) (.float q t') >>= _) Q E s
        refine wpAny_bind (AutoFloatOps.eq_0 ?_)
        have hne : p.toNat ≠ q.toNat := fun e' => e (UInt64.toNat_inj.mp e')
        have hc : (Float64.cmp p q == some Ordering.eq) = false := by
          rw [cmp_good hp hq]
          rcases Nat.lt_or_gt_of_ne hne with hlt | hgt
          · rw [Nat.compare_eq_lt.mpr hlt]; rfl
          · rw [Nat.compare_eq_gt.mpr hgt]; rfl
        rw [hc]
        exact wpAny_truthy_bool h

abbrev RcAtO (op : CmpOp) (A : Around) (s : Shared) (y x : Value) (b : Bool) : Prop :=
  ∀ (prog : Program) (w : World) (E : Value → Shared → Prop) (Q : Value → Shared → Prop), Q (.bool b) s → wpAny (model prog w) A (richCompare op y x) Q E s
theorem lt_scalar {fl : Bool} {T : Tks} {A : Around} {s : Shared} {v u : Value} {x y : Int} (hv : NV fl T v x) (hu : NV fl T u y) : RcAtO .Lt A s v u (decide (x < y)) := by
  intro prog w E Q h
  cases fl with
  | false =>
    obtain ⟨t, rfl⟩ := hv
    obtain ⟨t', rfl⟩ := hu
    exact lt_int h
  | true =>
    obtain ⟨p, t, rfl, ht, hp, rfl⟩ := hv
    obtain ⟨q, t', rfl, ht', hq, rfl⟩ := hu
    refine AutoFloatOps.lt_0 ?_
    have e : (Float64.cmp p q == some Ordering.lt) = decide ((p.toNat : Int) < (q.toNat : Int)) := by
      rw [cmp_good hp hq]
      rcases Nat.lt_trichotomy p.toNat q.toNat with hlt | heq | hgt
      · rw [Nat.compare_eq_lt.mpr hlt, decide_eq_true (by lia)]; rfl
      · rw [heq, Nat.compare_eq_eq.mpr rfl, decide_eq_false (by lia)]; rfl
      · rw [Nat.compare_eq_gt.mpr hgt, decide_eq_false (by lia)]; rfl
    rw [e]; exact h
theorem gt_scalar {fl : Bool} {T : Tks} {A : Around} {s : Shared} {v u : Value} {x y : Int} (hv : NV fl T v x) (hu : NV fl T u y) : RcAtO .Gt A s v u (decide (y < x)) := by
  intro prog w E Q h
  cases fl with
  | false =>
    obtain ⟨t, rfl⟩ := hv
    obtain ⟨t', rfl⟩ := hu
    exact gt_int h
  | true =>
    obtain ⟨p, t, rfl, ht, hp, rfl⟩ := hv
    obtain ⟨q, t', rfl, ht', hq, rfl⟩ := hu
    refine AutoFloatOps.gt_0 ?_
    have e : (Float64.cmp p q == some Ordering.gt) = decide ((q.toNat : Int) < (p.toNat : Int)) := by
      rw [cmp_good hp hq]
      rcases Nat.lt_trichotomy p.toNat q.toNat with hlt | heq | hgt
      · rw [Nat.compare_eq_lt.mpr hlt, decide_eq_false (by lia)]; rfl
      · rw [heq, Nat.compare_eq_eq.mpr rfl, decide_eq_false (by lia)]; rfl
      · rw [Nat.compare_eq_gt.mpr hgt, decide_eq_true (by lia)]; rfl
    rw [e]; exact h

def ordB (op : CmpOp) (x y : Int) : Bool := match op with | .Lt => decide (x < y) | _ => decide (y < x)
def lexB (op : CmpOp) : List Int → List Int → Bool
  | [], [] => false
  | [], _ :: _ => (match op with | .Lt => true | _ => false)
  | _ :: _, [] => (match op with | .Lt => false | _ => true)
  | x :: xs, y :: ys => if x = y then lexB op xs ys else ordB op x y
theorem lexB_lt : ∀ (d e : List Int), lexB .Lt d e = decide (d < e)
  | [], [] => by simp [lexB]
  | [], _ :: _ => by simp [lexB]
  | _ :: _, [] => by simp [lexB]
  | x :: xs, y :: ys => by
    rw [lexB, lexB_lt xs ys]
    by_cases h : x = y
    · subst h; rw [if_pos rfl]; simp
    · rw [if_neg h]; simp [List.cons_lt_cons_iff, h, ordB]
theorem lexB_gt : ∀ (d e : List Int), lexB .Gt d e = decide (e < d)
  | [], [] => by simp [lexB]
  | [], _ :: _ => by simp [lexB]
  | _ :: _, [] => by simp [lexB]
  | x :: xs, y :: ys => by
    rw [lexB, lexB_gt xs ys]
    by_cases h : x = y
    · subst h; rw [if_pos rfl]; simp
    · rw [if_neg h]
      have h' : ¬ y = x := fun e => h e.symm
      simp [List.cons_lt_cons_iff, h', ordB]
theorem lexB_size (op : CmpOp) (hop : op = .Lt ∨ op = .Gt) : ∀ (d e : List Int), (∀ i (h : i < d.length) (h' : i < e.length), d[i] = e[i]) → lexB op d e = (match op with | .Lt => decide (d.length < e.length) | _ => decide (d.length > e.length))
  | [], [], _ => by rcases hop with rfl | rfl <;> simp [lexB]
  | [], _ :: _, _ => by rcases hop with rfl | rfl <;> simp [lexB]
  | _ :: _, [], _ => by rcases hop with rfl | rfl <;> simp [lexB]
  | x :: xs, y :: ys, h => by
    have h0 := h 0 (by simp) (by simp)
    simp only [List.getElem_cons_zero] at h0
    rw [lexB, if_pos h0, lexB_size op hop xs ys fun i h1 h2 => by have q := h (i + 1) (Nat.succ_lt_succ h1) (Nat.succ_lt_succ h2); simpa only [List.getElem_cons_succ] using q]
    rcases hop with rfl | rfl <;> simp
theorem lexB_at (op : CmpOp) : ∀ (d e : List Int) (i : Nat) (h : i < d.length) (h' : i < e.length), (∀ j (h1 : j < d.length) (h2 : j < e.length), j < i → d[j] = e[j]) → d[i] ≠ e[i] → lexB op d e = ordB op d[i] e[i]
  | x :: xs, y :: ys, 0, _, _, _, hne => by simp only [List.getElem_cons_zero] at hne ⊢; rw [lexB, if_neg hne]
  | x :: xs, y :: ys, i + 1, h, h', heq, hne => by
    have h0 := heq 0 (by simp) (by simp) (Nat.succ_pos _)
    simp only [List.getElem_cons_zero] at h0
    rw [lexB, if_pos h0]
    simp only [List.getElem_cons_succ] at hne ⊢
    exact lexB_at op xs ys i (by simpa using h) (by simpa using h') (fun j h1 h2 h3 => by have q := heq (j + 1) (Nat.succ_lt_succ h1) (Nat.succ_lt_succ h2) (Nat.succ_lt_succ h3); simpa only [List.getElem_cons_succ] using q) hne

set_option maxHeartbeats 1000000 in
theorem tuple_lexAt (op : CmpOp) (hop : op = .Lt ∨ op = .Gt) {B : Builtin} (hB : B = (match op with | .Lt => Builtin.«tuple.__lt__» | _ => Builtin.«tuple.__gt__»))
    (l b : Addr) (items items2 : Array Value) (n n2 : Nat) (dd dd2 : Option Addr) (sl sl2 : Array (Option Value)) (d e : List Int) (hd : d.length = items.size) (he : e.length = items2.size) :
    Meets (B ⟨[.ref l, .ref b], []⟩)
      (fun A R s => s.heap.get? l = some { cls := .type "tuple", dict := dd, data := .seq items n, slots := sl } ∧ s.heap.get? b = some { cls := .type "tuple", dict := dd2, data := .seq items2 n2, slots := sl2 } ∧
        (∀ j (h1 : j < items.size) (h2 : j < items2.size), EqAt A.in1 s items[j] items2[j] (decide (d[j]'(hd ▸ h1) = e[j]'(he ▸ h2))) ∧ RcAtO op A.in1 s items[j] items2[j] (ordB op (d[j]'(hd ▸ h1)) (e[j]'(he ▸ h2)))) ∧
        R (.ok (.ret (.bool (lexB op d e)))) s) := by
  rcases hop with rfl | rfl
  all_goals
    subst hB
    refine .of_wp fun prog w A R s h => ?_
    obtain ⟨hp, g, dr, tk, os⟩ := s; obtain ⟨hl, hb, hj, h⟩ := h
    have f2 := AutoSeq1.sub_tuple_tuple
    have hZ : (items.toList.zip items2.toList).length = min items.size items2.size := by simp
    wp_walk using wpAny_loadPart' hl, wpAny_loadPart' hb, wpAny_forIn_list _ (fun rest b s' => b.1 = none ∧ s' = ⟨hp, g, dr, tk, os⟩ ∧ ∃ i, rest = (items.toList.zip items2.toList).drop i ∧ i ≤ min items.size items2.size ∧
      (∀ j (h1 : j < d.length) (h2 : j < e.length), j < i → d[j] = e[j])) _
    case turn =>
      rintro ⟨y, x⟩ rest b s' ⟨hb', rfl, i, hz, hi, hpre⟩
      have hlt : i < (items.toList.zip items2.toList).length := by
        rcases Nat.lt_or_ge i (items.toList.zip items2.toList).length with h' | h'
        · exact h'
        · rw [List.drop_of_length_le h'] at hz; cases hz
      have hm : i < min items.size items2.size := hZ ▸ hlt
      have h1 : i < items.size := Nat.lt_of_lt_of_le hm (Nat.min_le_left _ _)
      have h2 : i < items2.size := Nat.lt_of_lt_of_le hm (Nat.min_le_right _ _)
      rw [List.drop_eq_getElem_cons hlt] at hz
      injection hz with hyx hrest
      have hy : y = items[i] := by have := congrArg Prod.fst hyx; simpa using this
      have hx : x = items2[i] := by have := congrArg Prod.snd hyx; simpa using this
      subst hy hx
      refine wpAny_bind ((hj i h1 h2).1 prog w _ _ ?_)
      by_cases hq : d[i]'(hd ▸ h1) = e[i]'(he ▸ h2)
      · rw [decide_eq_true hq]
        wp_walk
        refine ⟨rfl, rfl, i + 1, hrest, by lia, fun j g1 g2 g3 => ?_⟩
        by_cases hji : j = i
        · subst hji; exact hq
        · exact hpre j g1 g2 (by lia)
      · rw [decide_eq_false hq]
        wp_walk using ((hj i h1 h2).2 prog w _ _)
        refine ⟨_, rfl, ?_⟩
        rw [lexB_at _ d e i (hd ▸ h1) (he ▸ h2) hpre hq] at h
        exact h
    case fin =>
      rintro ⟨b1, b2⟩ s' ⟨hb', rfl, i, hz, hi, hpre⟩
      simp only at hb'
      subst hb'
      have hge : min items.size items2.size ≤ i := by
        rcases Nat.lt_or_ge i (items.toList.zip items2.toList).length with h' | h'
        · rw [List.drop_eq_getElem_cons h'] at hz; cases hz
        · exact hZ ▸ h'
      have hall : ∀ j (h1 : j < d.length) (h2 : j < e.length), d[j] = e[j] := fun j h1 h2 => hpre j h1 h2 (by lia)
      rw [lexB_size _ (by simp) d e hall, hd, he] at h
      wp_walk
      exact ⟨_, rfl, by simpa [Builtin.Tuple.tupleCompareSizes] using h⟩
    case h =>
      exact ⟨rfl, rfl, 0, rfl, Nat.zero_le _, fun _ _ _ h => absurd h (Nat.not_lt_zero _)⟩
end Mine

-- A5
namespace Mine
open PySem PySem.W PyProof.Rows PySem.SeqAt PySem.Calls
open AutoSeq1 (wpAny_loadPart')
open MeetsSeq MeetsSeq2 MeetsSeq3 SeqRoads2

section
variable {h₀ : Heap} {L : Addr} {s₀ s : Shared} {m : NMap} {G : Ctx} {fl : Bool} {A : Around}

theorem eq_scalars (S : St h₀ L s₀ m G s) (nb : NoneBooked s.heap) {v u : Value} {x y : Int} (hv : NV fl G.2 v x) (hu : NV fl G.2 u y) : EqAt A s v u (decide (x = y)) := eq_scalar S.tkOk nb hv hu

theorem eq_tv (S : St h₀ L s₀ m G s) (nb : NoneBooked s.heap) (hu : A.units < cLine) {v u : Value} {d e : List Int} (hv : TV fl G v d) (hw : TV fl G u e) : EqAt A s v u (decide (d = e)) := by
  obtain ⟨a, xs, rfl, ha, hx⟩ := hv
  obtain ⟨b, ys, rfl, hb, hy⟩ := hw
  have lx := hx.length
  have ly := hy.length
  by_cases hab : a = b
  · subst hab
    have := S.fn ha hb
    have hd := congrArg Obj.data this
    simp only [Data.seq.injEq, and_true] at hd
    have hxy : xs = ys := by simpa using hd
    subst hxy
    have : d = e := by
      apply List.ext_getElem (by lia)
      intro i h1 h2
      have p := hx.get i (by lia) h1
      have q := hy.get i (by lia) h2
      cases fl with
      | false => obtain ⟨t, e1⟩ := p; obtain ⟨t', e2⟩ := q; rw [e1] at e2; injection e2
      | true => obtain ⟨c, t, e1, _, _, e3⟩ := p; obtain ⟨c', t', e2, _, _, e4⟩ := q; rw [e1] at e2; injection e2 with e5; rw [e3, e4, e5]
    rw [decide_eq_true this]
    exact EqAt.same _
  · refine EqAt.of_refs hab ?_
    have r := RcAt.tuples (A := A) (e := fun j => decide (d[j]? = e[j]?)) (S.isTuple ha) (S.isTuple hb) hu (fun j h1 h2 => by
      have h1' : j < d.length := by simpa [lx] using h1
      have h2' : j < e.length := by simpa [ly] using h2
      have q := eq_scalars (A := A.in1) S nb (hx.get j (by simpa using h1) h1') (hy.get j (by simpa using h2) h2')
      have e1 : decide (d[j]? = e[j]?) = decide (d[j] = e[j]) := by simp [h1', h2']
      rw [e1]; simpa using q)
    have e2 : ((List.range (min xs.toArray.size ys.toArray.size)).all (fun j => decide (d[j]? = e[j]?)) && xs.toArray.size == ys.toArray.size) = decide (d = e) := by
      rw [Bool.eq_iff_iff]
      simp only [Bool.and_eq_true, List.all_eq_true, List.mem_range, decide_eq_true_eq, beq_iff_eq, List.size_toArray]
      constructor
      · rintro ⟨h1, h2⟩
        apply List.ext_getElem (by lia)
        intro i h3 h4
        have := h1 i (by lia)
        simpa [h3, h4] using this
      · rintro rfl
        exact ⟨fun _ _ => rfl, by lia⟩
    rw [e2] at r
    exact r

theorem cmp_tv (op : CmpOp) (hop : op = .Lt ∨ op = .Gt) (S : St h₀ L s₀ m G s) (nb : NoneBooked s.heap) (hu : A.units < cLine) {v u : Value} {d e : List Int} (hv : TV fl G v d) (hw : TV fl G u e) : RcAtO op A s v u (lexB op d e) := by
  obtain ⟨a, xs, rfl, ha, hx⟩ := hv
  obtain ⟨b, ys, rfl, hb, hy⟩ := hw
  intro prog w E Q h
  have lx := hx.length
  have ly := hy.length
  have side : ∀ j (h1 : j < xs.toArray.size) (h2 : j < ys.toArray.size), EqAt A.in1 s xs.toArray[j] ys.toArray[j] (decide (d[j]'(by simpa [← lx] using h1) = e[j]'(by simpa [← ly] using h2))) ∧
      RcAtO op A.in1 s xs.toArray[j] ys.toArray[j] (ordB op (d[j]'(by simpa [← lx] using h1)) (e[j]'(by simpa [← ly] using h2))) := fun j h1 h2 => by
    have p := hx.get j (by simpa using h1) (by simpa [← lx] using h1)
    have q := hy.get j (by simpa using h2) (by simpa [← ly] using h2)
    refine ⟨by simpa using eq_scalars (A := A.in1) S nb p q, ?_⟩
    rcases hop with rfl | rfl
    · simpa [ordB] using lt_scalar (A := A.in1) (s := s) p q
    · simpa [ordB] using gt_scalar (A := A.in1) (s := s) p q
  rcases hop with rfl | rfl
  · exact richCompare_meets_room (op := .Lt) ⟨_, S.get ha, rfl⟩ ⟨_, S.get hb, rfl⟩ F.slot_tuple_lt F.entry_tuple_lt (F.args_tuple_lt_2 _ _)
      (tuple_lexAt .Lt (.inl rfl) rfl a b xs.toArray ys.toArray 0 0 none none #[] #[] d e (by simpa using lx.symm) (by simpa using ly.symm))
      ⟨S.get ha, S.get hb, side, show Value.bool _ ≠ Value.notImplemented ∧ Q (.bool _) s from ⟨(fun x => nomatch x), h⟩⟩ hu
  · exact richCompare_meets_room (op := .Gt) ⟨_, S.get ha, rfl⟩ ⟨_, S.get hb, rfl⟩ F.slot_tuple_gt F.entry_tuple_gt (F.args_tuple_gt_2 _ _)
      (tuple_lexAt .Gt (.inr rfl) rfl a b xs.toArray ys.toArray 0 0 none none #[] #[] d e (by simpa using lx.symm) (by simpa using ly.symm))
      ⟨S.get ha, S.get hb, side, show Value.bool _ ≠ Value.notImplemented ∧ Q (.bool _) s from ⟨(fun x => nomatch x), h⟩⟩ hu
theorem lt_tv (S : St h₀ L s₀ m G s) (nb : NoneBooked s.heap) (hu : A.units < cLine) {v u : Value} {d e : List Int} (hv : TV fl G v d) (hw : TV fl G u e) : RcAtO .Lt A s v u (decide (d < e)) := by
  have := cmp_tv .Lt (.inl rfl) S nb hu hv hw
  rwa [lexB_lt] at this
theorem gt_tv (S : St h₀ L s₀ m G s) (nb : NoneBooked s.heap) (hu : A.units < cLine) {v u : Value} {d e : List Int} (hv : TV fl G v d) (hw : TV fl G u e) : RcAtO .Gt A s v u (decide (e < d)) := by
  have := cmp_tv .Gt (.inr rfl) S nb hu hv hw
  rwa [lexB_gt] at this
end

noncomputable def hits (vs : List Value) (ds : List (List Int)) (e : List Int) (y : Value) : Bool := by
  classical
  exact decide (∃ i : Nat, vs[i]? = some y ∧ ds[i]? = some e)

section
variable {h₀ : Heap} {L : Addr} {s₀ s : Shared} {m : NMap} {G : Ctx} {fl : Bool} {A : Around}
theorem tv_fn (S : St h₀ L s₀ m G s) {v : Value} {d e : List Int} (h : TV fl G v d) (h' : TV fl G v e) : d = e := by
  obtain ⟨a, xs, rfl, ha, hx⟩ := h
  obtain ⟨b, ys, e1, hb, hy⟩ := h'
  cases e1
  have := S.fn ha hb
  have hd := congrArg Obj.data this
  simp only [Data.seq.injEq, and_true] at hd
  have hxy : xs = ys := by simpa using hd
  subst hxy
  have lx := hx.length
  have ly := hy.length
  apply List.ext_getElem (by lia)
  intro i h1 h2
  have p := hx.get i (by lia) h1
  have q := hy.get i (by lia) h2
  cases fl with
  | false => obtain ⟨t, e1⟩ := p; obtain ⟨t', e2⟩ := q; rw [e1] at e2; injection e2
  | true => obtain ⟨c, t, e1, _, _, e3⟩ := p; obtain ⟨c', t', e2, _, _, e4⟩ := q; rw [e1] at e2; injection e2 with e5; rw [e3, e4, e5]

theorem hits_eq (S : St h₀ L s₀ m G s) {vs : List Value} {ds : List (List Int)} {e : List Int} (hd : All2 (TV fl G) vs ds) {y : Value} {d : List Int} (hy : TV fl G y d) (hm : y ∈ vs) : hits vs ds e y = decide (d = e) := by
  unfold hits
  rw [decide_eq_decide]
  constructor
  · rintro ⟨i, h1, h2⟩
    obtain ⟨d', h3, h4⟩ := hd.getq' h1
    rw [h2] at h3; cases h3
    exact tv_fn S hy h4
  · rintro rfl
    obtain ⟨i, hi, rfl⟩ := List.mem_iff_getElem.mp hm
    obtain ⟨d', h3, h4⟩ := hd.getq' (List.getElem?_eq_getElem hi)
    exact ⟨i, List.getElem?_eq_getElem hi, by rw [h3, tv_fn S hy h4]⟩
theorem hits_at (S : St h₀ L s₀ m G s) (nb : NoneBooked s.heap) (hu : A.units + 1 < cLine) {vs : List Value} {ds : List (List Int)} {e : List Int} (hd : All2 (TV fl G) vs ds) {u : Value} (he : TV fl G u e) :
    ∀ y, y ∈ vs → EqAt A.in1 s y u (hits vs ds e y) := fun y hy => by
  obtain ⟨d, _, h⟩ := hd.mem hy
  rw [hits_eq S hd h hy]
  exact eq_tv S nb (by exact hu) h he
theorem hits_count (S : St h₀ L s₀ m G s) {e : List Int} {vs : List Value} {ds : List (List Int)} (hd : All2 (TV fl G) vs ds) : vs.countP (hits vs ds e) = ds.count e := by
  have key : ∀ (us : List Value) (es : List (List Int)), All2 (TV fl G) us es → (∀ u ∈ us, u ∈ vs) → us.countP (hits vs ds e) = es.count e := by
    intro us es h
    induction h with
    | nil => intro _; rfl
    | cons a r ih =>
      intro hm
      rw [List.countP_cons, List.count_cons, ih fun u hu => hm u (.tail _ hu), hits_eq S hd a (hm _ (.head _))]
      simp
  exact key vs ds hd fun _ h => h
theorem hits_any (S : St h₀ L s₀ m G s) {e : List Int} {vs : List Value} {ds : List (List Int)} (hd : All2 (TV fl G) vs ds) : vs.any (hits vs ds e) = decide (e ∈ ds) := by
  have key : ∀ (us : List Value) (es : List (List Int)), All2 (TV fl G) us es → (∀ u ∈ us, u ∈ vs) → us.any (hits vs ds e) = decide (e ∈ es) := by
    intro us es h
    induction h with
    | nil => intro _; rfl
    | @cons x y _ ys a r ih =>
      intro hm
      rw [List.any_cons, ih fun u hu => hm u (.tail _ hu), hits_eq S hd a (hm _ (.head _))]
      by_cases h1 : y = e
      · subst h1; simp
      · have h1' : ¬ e = y := fun h => h1 h.symm
        simp [h1, h1']
  exact key vs ds hd fun _ h => h

section
variable {prog : Program} {w : World} {E : Value → Shared → Prop} {Q : Value → Shared → Prop}
theorem count_tv (S : St h₀ L s₀ m G s) (nb : NoneBooked s.heap) (hu : A.units + 1 < cLine) {l : Addr} {vs : List Value} {n : Nat} {ds : List (List Int)} (hl : (l, lstO vs n) ∈ G.1) (hd : All2 (TV fl G) vs ds) {u : Value} {e : List Int} (he : TV fl G u e)
    (h : ∀ t s', St h₀ L s₀ m G s' → Q (.int (ds.count e : Nat) t) s') : wpAny (model prog w) A (call (.builtin "list.count") [.ref l, u]) Q E s := by
  refine call_meets PySem.F.slot_list_count ⟨_, S.get hl, rfl⟩ PySem.F.entry_list_count (PySem.F.args_list_count_2 _ _) (list_countAt l vs.toArray n none #[] u (hits vs ds e))
    ⟨S.get hl, fun y hy => hits_at S nb hu hd he y (by simpa using hy), ?_⟩
  rw [show vs.toArray.toList = vs from rfl, hits_count S hd]
  exact h _ _ (S.toks (Nat.le_succ _))
theorem index_tv (S : St h₀ L s₀ m G s) (nb : NoneBooked s.heap) (hu : A.units + 1 < cLine) {l : Addr} {vs : List Value} {n : Nat} {ds : List (List Int)} (hl : (l, lstO vs n) ∈ G.1) (hd : All2 (TV fl G) vs ds) {u : Value} {e : List Int} (he : TV fl G u e) (hm : e ∈ ds) (hsz : ds.length < 2 ^ 62)
    (h : ∀ t s', St h₀ L s₀ m G s' → Q (.int (ds.idxOf e : Nat) t) s') : wpAny (model prog w) A (call (.builtin "list.index") [.ref l, u]) Q E s := by
  have hj : ds.idxOf e < ds.length := List.idxOf_lt_length_iff.mpr hm
  have hj' : ds.idxOf e < vs.length := by rw [hd.length]; exact hj
  have at' : ∀ (i : Nat) (h1 : i < vs.length) (h2 : i < ds.length), hits vs ds e vs[i] = decide (ds[i] = e) := fun i h1 h2 => hits_eq S hd (hd.get i h1 h2) (List.getElem_mem h1)
  refine call_meets PySem.F.slot_list_index ⟨_, S.get hl, rfl⟩ PySem.F.entry_list_index (PySem.F.args_list_index_2 _ _)
    (list_indexAt l vs.toArray n none #[] u (hits vs ds e) (ds.idxOf e) (by simpa using hj') (by lia) ?_ ?_)
    ⟨S.get hl, fun y hy => hits_at S nb hu hd he y (by simpa using hy), h _ _ (S.toks (Nat.le_succ _))⟩
  · show hits vs ds e vs[ds.idxOf e] = true
    rw [at' _ hj' hj]; simp
  · intro k hk hlt
    have hk' : k < vs.length := by simpa using hk
    show hits vs ds e vs[k] = false
    rw [at' _ hk' (by rw [← hd.length]; exact hk')]
    exact decide_eq_false (by
      have := List.not_of_lt_findIdx (p := fun x => x == e) (xs := ds) (i := k) hlt
      simpa using this)
theorem notIn_tv (S : St h₀ L s₀ m G s) (nb : NoneBooked s.heap) (hu : A.units + 1 < cLine) {l : Addr} {vs : List Value} {n : Nat} {ds : List (List Int)} (hl : (l, lstO vs n) ∈ G.1) (hd : All2 (TV fl G) vs ds) {u : Value} {e : List Int} (he : TV fl G u e)
    (h : Q (.bool (!decide (e ∈ ds))) s) : wpAny (model prog w) A (compareOp .NotIn u (.ref l)) Q E s := by
  refine notIn_listAt (hits vs ds e) (S.isList hl) (fun y hy => hits_at S nb hu hd he y (by simpa using hy)) ?_
  have : vs.toArray.any (hits vs ds e) = decide (e ∈ ds) := by rw [List.any_toArray]; exact hits_any S hd
  rw [this]; exact h
theorem eq_lv (S : St h₀ L s₀ m G s) (nb : NoneBooked s.heap) (hu : A.units + 1 < cLine) {a b : Addr} {us vs : List Value} {n k : Nat} {ds es : List (List Int)} (hl : (a, lstO us n) ∈ G.1) (hd : All2 (TV fl G) us ds) (hl' : (b, lstO vs k) ∈ G.1) (he : All2 (TV fl G) vs es) :
    RcAt A s (.ref a) (.ref b) (decide (ds = es)) := by
  have ld := hd.length
  have le := he.length
  by_cases hsz : us.length = vs.length
  · have r := RcAt.lists (A := A) (e := fun j => decide (ds[j]? = es[j]?)) (S.isList hl) (S.isList hl') (by simpa using hsz) (Nat.lt_of_succ_lt hu) (fun j h1 h2 => by
      have h1' : j < ds.length := by simpa [ld] using h1
      have h2' : j < es.length := by simpa [le] using h2
      have q := eq_tv (A := A.in1) S nb hu (hd.get j (by simpa using h1) h1') (he.get j (by simpa using h2) h2')
      have e1 : decide (ds[j]? = es[j]?) = decide (ds[j] = es[j]) := by simp [h1', h2']
      rw [e1]; simpa using q)
    have e2 : ((List.range us.toArray.size).all fun j => decide (ds[j]? = es[j]?)) = decide (ds = es) := by
      rw [Bool.eq_iff_iff]
      simp only [List.all_eq_true, List.mem_range, decide_eq_true_eq, List.size_toArray]
      constructor
      · intro h1
        apply List.ext_getElem (by lia)
        intro i h3 h4
        have := h1 i (by lia)
        simpa [h3, h4] using this
      · rintro rfl
        exact fun _ _ => rfl
    rw [e2] at r
    exact r
  · have r := RcAt.lists_lengths (A := A) (S.isList hl) (S.isList hl') (by simpa using hsz) (Nat.lt_of_succ_lt hu)
    have : ds ≠ es := fun h => hsz (by rw [ld, le, h])
    rw [decide_eq_false this]
    exact r
end
end
end Mine

-- A6
namespace Mine
open PySem PySem.W PyProof.Rows PySem.SeqAt PySem.Calls

structure Amb (K : Frag) (p : Program) (loose : List Str) (A : Around) (env : Env) (h₀ : Heap) (L : Addr) (d : Nat) : Prop where
  below : ∃ A₀ base outer, Below A₀ base outer h₀ ∧ A.frames = some (env :: outer) ∧ K.In base ∧ ∃ mean mg mb, Top p loose mean mg mb base
  stat : ∃ c n, K.lookup cStatics = some ⟨c, none, .dict #[] n, #[]⟩
  X : K.In h₀
  T : ∃ mean mg mb, Top p loose mean mg mb h₀
  fr : env.frame = some L
  kind : env.scope.kind = .function
  hh : A.handled = none
  dep : A.depth + d < recursionLimit
  uni : A.units + 64 * d + 64 < cLine
  nb : NoneBooked h₀

theorem nb_keeps {h h' : Heap} (x : NoneBooked h) (k : ∀ b o, h.get? b = some o → h'.get? b = some o) : NoneBooked h' := let ⟨mc, h1, h2⟩ := x; ⟨mc, h1.keeps k, h2⟩
theorem noneBooked_of {K : Frag} {h : Heap} (X : K.In h) {n : Nat} {c : Value} (hl : K.lookup cStatics = some ⟨c, none, .dict #[] n, #[]⟩) : NoneBooked h :=
  ⟨fun _ => none, ⟨_, #[], n, X _ _ hl, rfl, fun e he => by simp at he, fun x => by simp [nsFind, findBy]⟩, rfl⟩

section
variable {K : Frag} {p : Program} {loose : List Str} {A : Around} {env : Env} {h₀ : Heap} {L : Addr} {d : Nat} {s₀ s : Shared} {m : NMap} {G : Ctx}
theorem Amb.less' {k : Nat} (am : Amb K p loose A env h₀ L d) (h : k ≤ d) : Amb K p loose A env h₀ L k := ⟨am.below, am.stat, am.X, am.T, am.fr, am.kind, am.hh, by have := am.dep; lia, by have := am.uni; lia, am.nb⟩
theorem Amb.nbAt (am : Amb K p loose A env h₀ L d) (S : St h₀ L s₀ m G s) : NoneBooked s.heap := nb_keeps am.nb S.F.keep
theorem Amb.units (am : Amb K p loose A env h₀ L d) : A.units + 64 < cLine := by have := am.uni; lia
theorem Amb.units1 (am : Amb K p loose A env h₀ L d) : A.units + 1 < cLine := by have := am.uni; lia
theorem Amb.units0 (am : Amb K p loose A env h₀ L d) : A.units < cLine := by have := am.uni; lia

theorem St.leave {g : Heap} {L' : Addr} {s₂ : Shared} {m' : NMap} {G' : Ctx} (S : St h₀ L s₀ m G s) (S' : St g L' s m' G' s₂) (F : Fr h₀ L s₂.heap m) (N : News h₀ L s₂.heap G'.1) : St h₀ L s₀ m G' s₂ := by
  obtain ⟨_, _, _, _, ⟨h, tk, rfl⟩⟩ := S
  obtain ⟨_, _, K', P', ⟨h', tk', rfl⟩⟩ := S'
  exact ⟨F, N, K', P', ⟨h', tk', rfl⟩⟩

section
variable {prog : Program} {w : World} {E : Value → Shared → Prop} {Q : Value → Shared → Prop}
  {name qual : Str} {params : Arguments} {body : List Stmt} {scope : Scope} {dV kV doc pm cdv ct oc : Value} {an od : Option Addr} {osl : Array (Option Value)} {f : Addr} {vs : List Value} {binds : List (Str × Value)}

theorem enter (am : Amb K p loose A env h₀ L (d + 1)) (S : St h₀ L s₀ m G s)
    (ho : K.lookup f = some ⟨oc, od, .func (fnOf name qual params body scope dV kV doc pm an cdv ct), osl⟩) (hcd : codeIn K cdv qual = true)
    (hbind : BindsTo s (fnOf name qual params body scope dV kV doc pm an cdv ct) ⟨vs, []⟩ binds) (hloc : ∀ y ∈ binds, scope.names.lookup y.1 = some .local)
    (hco : scope.isCoroutine = false) (hgen : scope.isGenerator = false) (hk : scope.kind = .function) (hcell : ∀ x ∈ scope.names, x.2 ≠ .cell)
    (Ret : Ctx → Value → Prop)
    (h : ∀ g L' s₁, Amb K p loose (A.deeper (envX qual scope L' f cdv [])) (envX qual scope L' f cdv []) g L' d → St g L' s (fun y => binds.reverse.lookup y) G s₁ →
      wpAny (model prog w) (A.deeper (envX qual scope L' f cdv [])) (execs body (envX qual scope L' f cdv []))
        (fun fl s₂ => ∃ m' G', St g L' s m' G' s₂ ∧ Ret G' (match fl with | .ret v => v | _ => .none)) (fun _ _ => False) s₁)
    (hQ : ∀ G' v s', St h₀ L s₀ m G' s' → Ret G' v → Q v s') : wpAny (model prog w) A (call (.ref f) vs) Q E s := by
  obtain ⟨A₀, base, outer, B, hA, XB, TB⟩ := am.below
  obtain ⟨mean, mg, mb, T⟩ := am.T
  refine wpAny_call (code_def (env := env) B S.F am.X S.N T hA am.fr am.kind ho hcd (by have := am.dep; lia) hbind hloc (fun g L' h₁ FG F' N' B' X' T' => ?_) hco hgen hk hcell)
  have S₁ : St g L' s (fun y => binds.reverse.lookup y) G { s with heap := h₁, toks := s.toks + binds.length } := by
    obtain ⟨_, _, K', P', ⟨h', tk', rfl⟩⟩ := S
    exact ⟨F', N', fun p hp => ⟨(K' p hp).1, Nat.lt_of_lt_of_le (K' p hp).2.1 (Nat.le_add_right _ _), (K' p hp).2.2⟩, Nat.lt_of_lt_of_le P' (Nat.le_add_right _ _), ⟨_, _, rfl⟩⟩
  refine wpAny_mono (h g L' _ ⟨⟨A, base, env :: outer, B', by show A.frames.map _ = _; rw [hA]; rfl, XB, TB⟩, am.stat, X', ⟨mean, mg, mb, T'⟩, rfl, hk, am.hh, by have := am.dep; show A.depth + 1 + d < _; lia, by have := am.uni; show A.units + 3 + 64 * d + 64 < _; lia, ?_⟩ S₁) (fun fl s₂ hr => ?_) fun _ _ x => x.elim
  · exact nb_keeps am.nb FG.keep
  · obtain ⟨m', G', S₂, hr⟩ := hr
    exact leaveK_ S₂.F S₂.N fun F N => hQ G' _ s₂ (S.leave S₂ F N) hr

theorem enterC (am : Amb K p loose A env h₀ L (d + 1)) (S : St h₀ L s₀ m G s)
    (ho : K.lookup f = some ⟨oc, od, .func (fnOf name qual params body scope dV kV doc pm an cdv ct), osl⟩) (hcd : codeIn K cdv qual = true)
    (hbind : BindsTo s (fnOf name qual params body scope dV kV doc pm an cdv ct) ⟨vs, []⟩ binds) (hkind : (binds.all fun y => scope.names.lookup y.1 == some .local || scope.names.lookup y.1 == some .cell) = true)
    (hnd : ((cellsFrom 0 scope.names []).map (·.1)).Nodup)
    (hco : scope.isCoroutine = false) (hgen : scope.isGenerator = false) (hk : scope.kind = .function)
    (Ret : Ctx → Value → Prop)
    (h : ∀ g L' cells s₁, Amb K p loose (A.deeper (envX qual scope L' f cdv (cellsFrom (L' + 1) scope.names []))) (envX qual scope L' f cdv (cellsFrom (L' + 1) scope.names [])) g L' d →
      CellsAre (bindC (envX qual scope L' f cdv (cellsFrom (L' + 1) scope.names [])).kindOf binds fun _ => none) (cellsFrom (L' + 1) scope.names []) cells →
      St g L' s (bindL (envX qual scope L' f cdv (cellsFrom (L' + 1) scope.names [])).kindOf binds fun _ => none) (cells ++ G.1, G.2) s₁ → (∀ p ∈ G.1, p.1 < L') →
      wpAny (model prog w) (A.deeper (envX qual scope L' f cdv (cellsFrom (L' + 1) scope.names []))) (execs body (envX qual scope L' f cdv (cellsFrom (L' + 1) scope.names [])))
        (fun fl s₂ => ∃ m' G', St g L' s m' G' s₂ ∧ Ret G' (match fl with | .ret v => v | _ => .none)) (fun _ _ => False) s₁)
    (hQ : ∀ G' v s', St h₀ L s₀ m G' s' → Ret G' v → Q v s') : wpAny (model prog w) A (call (.ref f) vs) Q E s := by
  obtain ⟨A₀, base, outer, B, hA, XB, TB⟩ := am.below
  obtain ⟨mean, mg, mb, T⟩ := am.T
  obtain ⟨FG, BG, st, lv⟩ := groundX (R := fun r s' => match r with | .ok (.ret v) => Q v s' | .ok _ => False | .error e => E e s') B S.F S.N hA am.fr am.kind
  refine wpAny_call ?_
  refine codeAny_call_function (by have := am.dep; lia) ((am.X.keeps S.F.keep) _ _ ho) rfl hco hgen rfl (codeRec_of (am.X.keeps S.F.keep) hcd) (hbind _ _ _ _ ?_)
  refine wpAny_with_toks (n := s.toks) (Nat.le_refl _) (wpAny_newFunctionEnv_cells hk (kindsX hkind _) fun env' he s' x htk => ?_)
  subst he
  refine ⟨(T.nolimit.keeps S.F.keep).keeps x.toInCall.keep, codeAny_func ?_⟩
  obtain ⟨h₁, tk, rfl, _⟩ := x.done
  have hk₁ := x.toInCall.keep
  obtain ⟨cells, NC, Y⟩ := Cl.news (h₀ := s.heap) (Nat.le_refl _) fun n c hm => ⟨x.cell n c (lookup_of_mem_nodup (cellsFrom_names scope.names 0 (s.heap.objs.size + 1) [] [] rfl ▸ hnd) hm), x.above n c hm⟩
  have NN : News (hideAll s.heap (G.1.map (·.1))) s.heap.objs.size h₁ (cells ++ G.1) := fun p hp => by
    rcases List.mem_append.mp hp with hp | hp
    · refine ⟨(NC p hp).1, (NC p hp).2.1, ?_⟩
      cases q : (hideAll s.heap (G.1.map (·.1))).get? p.1 with
      | none => rfl
      | some o => have := of_hideAll _ q; rw [(NC p hp).2.2] at this; cases this
    · exact ⟨hk₁ _ _ (S.N p hp).1, Nat.ne_of_lt (Heap.lt_size (S.N p hp).1), hideAll_none _ (List.mem_map_of_mem hp)⟩
  have S₁ : St (hideAll s.heap (G.1.map (·.1))) s.heap.objs.size s (bindL (envX qual scope s.heap.objs.size f cdv (cellsFrom (s.heap.objs.size + 1) scope.names [])).kindOf binds fun _ => none) (cells ++ G.1, G.2) { s with heap := h₁, toks := tk } := by
    obtain ⟨_, _, K', P', ⟨h', tk', rfl⟩⟩ := S
    exact ⟨⟨x.toInCall.ns, fun b o e => hk₁ b o (of_hideAll _ e), Nat.le_of_eq (hideAll_size _ _)⟩, NN, fun p hp => ⟨(K' p hp).1, Nat.lt_of_lt_of_le (K' p hp).2.1 htk, (K' p hp).2.2⟩, Nat.lt_of_lt_of_le P' htk, ⟨_, _, rfl⟩⟩
  refine wpAny_mono (h _ _ cells _ ⟨⟨A, base, env :: outer, BG, by show A.frames.map _ = _; rw [hA]; rfl, XB, TB⟩, am.stat, am.X.keeps st, ⟨mean, mg, mb, T.keeps st⟩, rfl, hk, am.hh, by have := am.dep; show A.depth + 1 + d < _; lia, by have := am.uni; show A.units + 3 + 64 * d + 64 < _; lia, nb_keeps am.nb st⟩ Y S₁
    (fun p hp => Heap.lt_size (S.N p hp).1)) (fun fl s₂ hr => ?_) fun _ _ y => y.elim
  obtain ⟨m', G', S₂, hr⟩ := hr
  refine lv _ _ (leaveK_ S₂.F S₂.N fun F N => hQ G' _ s₂ (S.leave S₂ F N) hr)

def Tn (A : Around) (g g' : Heap) : Prop := ∃ env outer, A.frames = some (env :: outer) ∧ KtsTurn (outer.filterMap (·.frame)) g g'
theorem Tn.rfl {env : Env} {outer : List Env} {g : Heap} (h : A.frames = some (env :: outer)) : Tn A g g := ⟨env, outer, h, KtsTurn.refl⟩
theorem Tn.trans {g g₁ g₂ : Heap} (x : Tn A g g₁) (y : Tn A g₁ g₂) : Tn A g g₂ := by
  obtain ⟨e, o, h, T⟩ := x
  obtain ⟨e', o', h', T'⟩ := y
  rw [h] at h'
  cases h'
  exact ⟨e, o, h, T.trans T'⟩
theorem Amb.tn0 (am : Amb K p loose A env h₀ L d) : Tn A h₀ h₀ := by
  obtain ⟨A₀, base, outer, B, hA, _⟩ := am.below
  exact Tn.rfl hA
theorem Amb.turned {h₀' : Heap} (am : Amb K p loose A env h₀ L d) (T : Tn A h₀ h₀') : Amb K p loose A env h₀' L d := by
  obtain ⟨A₀, base, outer, B, hA, XB, mean, mg, mb, TB⟩ := am.below
  obtain ⟨e, o, h, T⟩ := T
  rw [hA] at h
  cases h
  have st : base.StaysIn h₀' := fun b x e => T.other b x (B.stays b x e) (fun hm => by rw [(B.frames.mem hm).1] at e; cases e)
  have B' : Below A₀ base outer h₀' := ⟨B.stack, st, B.frames.of_keeps fun b x e _ => by obtain ⟨sl, hs⟩ := T.up e; exact ⟨_, hs, Eq.refl _⟩⟩
  have X' : K.In h₀' := XB.keeps st
  obtain ⟨c, n, hl⟩ := am.stat
  exact ⟨⟨A₀, base, outer, B', hA, XB, mean, mg, mb, TB⟩, am.stat, X', ⟨mean, mg, mb, TB.keeps st⟩, am.fr, am.kind, am.hh, am.dep, am.uni, noneBooked_of X' hl⟩

def Amb.To (_ : Amb K p loose A env h₀ L d) (g : Heap) : Prop := Tn A h₀ g
theorem Amb.to0 (am : Amb K p loose A env h₀ L d) : am.To h₀ := am.tn0
theorem Amb.to_at {g : Heap} (am : Amb K p loose A env h₀ L d) (h : am.To g) : Amb K p loose A env g L d := am.turned h
theorem Amb.to_on {g g' : Heap} {am : Amb K p loose A env h₀ L d} (h : am.To g) (k : Tn A g g') : am.To g' := Tn.trans h k
theorem enterX (am : Amb K p loose A env h₀ L (d + 1)) (S : St h₀ L s₀ m G s)
    (ho : K.lookup f = some ⟨oc, od, .func (fnOf name qual params body scope dV kV doc pm an cdv ct), osl⟩) (hcd : codeIn K cdv qual = true)
    (hbind : BindsTo s (fnOf name qual params body scope dV kV doc pm an cdv ct) ⟨vs, []⟩ binds) (hkind : (binds.all fun y => scope.names.lookup y.1 == some .local || scope.names.lookup y.1 == some .cell) = true)
    (hnd : ((cellsFrom 0 scope.names []).map (·.1)).Nodup)
    (hco : scope.isCoroutine = false) (hgen : scope.isGenerator = false) (hk : scope.kind = .function)
    (Ret : Ctx → Value → Prop)
    (h : ∀ g L' cells s₁, Amb K p loose (A.deeper (envX qual scope L' f cdv (cellsFrom (L' + 1) scope.names []))) (envX qual scope L' f cdv (cellsFrom (L' + 1) scope.names [])) g L' d →
      CellsAre (bindC (envX qual scope L' f cdv (cellsFrom (L' + 1) scope.names [])).kindOf binds fun _ => none) (cellsFrom (L' + 1) scope.names []) cells →
      St g L' s (bindL (envX qual scope L' f cdv (cellsFrom (L' + 1) scope.names [])).kindOf binds fun _ => none) (cells ++ G.1, G.2) s₁ → (∀ p ∈ G.1, p.1 < L') →
      wpAny (model prog w) (A.deeper (envX qual scope L' f cdv (cellsFrom (L' + 1) scope.names []))) (execs body (envX qual scope L' f cdv (cellsFrom (L' + 1) scope.names [])))
        (fun fl s₂ => ∃ g' m' G', Tn (A.deeper (envX qual scope L' f cdv (cellsFrom (L' + 1) scope.names []))) g g' ∧ St g' L' s m' G' s₂ ∧ Ret G' (match fl with | .ret v => v | _ => .none)) (fun _ _ => False) s₁)
    (hQ : ∀ h₀' G' v s', Tn A h₀ h₀' → Amb K p loose A env h₀' L (d + 1) → St h₀' L s₀ m G' s' → Ret G' v → Q v s') : wpAny (model prog w) A (call (.ref f) vs) Q E s := by
  obtain ⟨A₀, base, outer, B, hA, XB, TB⟩ := am.below
  obtain ⟨mean, mg, mb, T⟩ := am.T
  obtain ⟨FG, BG, st, lv⟩ := groundX (R := fun r s' => match r with | .ok (.ret v) => Q v s' | .ok _ => False | .error e => E e s') B S.F S.N hA am.fr am.kind
  refine wpAny_call ?_
  refine codeAny_call_function (by have := am.dep; lia) ((am.X.keeps S.F.keep) _ _ ho) rfl hco hgen rfl (codeRec_of (am.X.keeps S.F.keep) hcd) (hbind _ _ _ _ ?_)
  refine wpAny_with_toks (n := s.toks) (Nat.le_refl _) (wpAny_newFunctionEnv_cells hk (kindsX hkind _) fun env' he s' x htk => ?_)
  subst he
  refine ⟨(T.nolimit.keeps S.F.keep).keeps x.toInCall.keep, codeAny_func ?_⟩
  obtain ⟨h₁, tk, rfl, _⟩ := x.done
  have hk₁ := x.toInCall.keep
  obtain ⟨cells, NC, Y⟩ := Cl.news (h₀ := s.heap) (Nat.le_refl _) fun n c hm => ⟨x.cell n c (lookup_of_mem_nodup (cellsFrom_names scope.names 0 (s.heap.objs.size + 1) [] [] rfl ▸ hnd) hm), x.above n c hm⟩
  have NN : News (hideAll s.heap (G.1.map (·.1))) s.heap.objs.size h₁ (cells ++ G.1) := fun p hp => by
    rcases List.mem_append.mp hp with hp | hp
    · refine ⟨(NC p hp).1, (NC p hp).2.1, ?_⟩
      cases q : (hideAll s.heap (G.1.map (·.1))).get? p.1 with
      | none => rfl
      | some o => have := of_hideAll _ q; rw [(NC p hp).2.2] at this; cases this
    · exact ⟨hk₁ _ _ (S.N p hp).1, Nat.ne_of_lt (Heap.lt_size (S.N p hp).1), hideAll_none _ (List.mem_map_of_mem hp)⟩
  have S₁ : St (hideAll s.heap (G.1.map (·.1))) s.heap.objs.size s (bindL (envX qual scope s.heap.objs.size f cdv (cellsFrom (s.heap.objs.size + 1) scope.names [])).kindOf binds fun _ => none) (cells ++ G.1, G.2) { s with heap := h₁, toks := tk } := by
    obtain ⟨_, _, K', P', ⟨h', tk', rfl⟩⟩ := S
    exact ⟨⟨x.toInCall.ns, fun b o e => hk₁ b o (of_hideAll _ e), Nat.le_of_eq (hideAll_size _ _)⟩, NN, fun p hp => ⟨(K' p hp).1, Nat.lt_of_lt_of_le (K' p hp).2.1 htk, (K' p hp).2.2⟩, Nat.lt_of_lt_of_le P' htk, ⟨_, _, rfl⟩⟩
  refine wpAny_mono (h _ _ cells _ ⟨⟨A, base, env :: outer, BG, by show A.frames.map _ = _; rw [hA]; rfl, XB, TB⟩, am.stat, am.X.keeps st, ⟨mean, mg, mb, T.keeps st⟩, rfl, hk, am.hh, by have := am.dep; show A.depth + 1 + d < _; lia, by have := am.uni; show A.units + 3 + 64 * d + 64 < _; lia, nb_keeps am.nb st⟩ Y S₁
    (fun p hp => Heap.lt_size (S.N p hp).1)) (fun fl s₂ hr => ?_) fun _ _ y => y.elim
  obtain ⟨g', m', G', ⟨e', o', hf', TT⟩, S₂, hr⟩ := hr
  have hf2 : (A.deeper (envX qual scope s.heap.objs.size f cdv (cellsFrom (s.heap.objs.size + 1) scope.names []))).frames = some (envX qual scope s.heap.objs.size f cdv (cellsFrom (s.heap.objs.size + 1) scope.names []) :: env :: outer) := by show A.frames.map _ = _; rw [hA]; rfl
  rw [hf2] at hf'
  cases hf'
  have hfs : (env :: outer).filterMap (·.frame) = L :: outer.filterMap (·.frame) := by rw [List.filterMap_cons, am.fr]
  rw [hfs] at TT
  have hL0 : h₀.get? L = none := kts_self S.F
  obtain ⟨T₀, S₀⟩ := kts_turn_at (h := s₂.heap) (fs := outer.filterMap (·.frame)) (g := h₀)
    (fun b hb => by obtain ⟨_, o, ho, _⟩ := B.frames.mem hb; exact ⟨o, ho⟩)
    (fun b o e nm => S₂.F.keep b o (TT.other b o (st b o e) fun hm => by
      rcases List.mem_cons.mp hm with q | q
      · rw [q, hL0] at e; cases e
      · exact nm q))
    (fun b o e hm => by
      obtain ⟨sl, hs⟩ := TT.frame b o (st b o e) (.tail _ hm)
      exact ⟨sl, S₂.F.keep _ _ hs⟩)
  have SS : St (ktsHeap s₂.heap (outer.filterMap (·.frame)) h₀) L s₀ m G' s₂ := by
    obtain ⟨oL, es, ep, hLg, hLd, r⟩ := FG.ns
    obtain ⟨sl, hs⟩ := TT.frame L oL hLg (.head _)
    obtain ⟨_, _, _, _, ⟨h, tk, rfl⟩⟩ := S
    obtain ⟨F', N', K', P', ⟨h', tk', rfl⟩⟩ := S₂
    refine ⟨⟨⟨_, es, ep, F'.keep _ _ hs, hLd, r⟩, S₀, by rw [T₀.size]; exact FG.above⟩, fun p hp => ⟨(N' p hp).1, fun e => ?_, ?_⟩, K', P', ⟨h', tk', rfl⟩⟩
    · have := (N' p hp).2.2; rw [e, hs] at this; cases this
    · refine T₀.none_ _ ?_
      cases q : h₀.get? p.1 with
      | none => rfl
      | some o =>
        obtain ⟨sl', hs'⟩ := TT.up (st _ _ q)
        rw [(N' p hp).2.2] at hs'; cases hs'
  have tn : Tn A h₀ (ktsHeap s₂.heap (outer.filterMap (·.frame)) h₀) := ⟨env, outer, hA, T₀⟩
  exact hQ _ G' _ s₂ tn (am.turned tn) SS hr
end
end
end Mine

-- A7
namespace Mine
open PySem PySem.W PyProof.Rows PySem.SeqAt PySem.Calls

section
variable {K : Frag} {p : Program} {loose : List Str} {M : Model} {A : Around} {E : Value → Shared → Prop} {env : Env} {h₀ : Heap} {L : Addr} {d : Nat} {s₀ s : Shared} {m : NMap} {G : Ctx}
  {cn : Str} {cs : Scope} {a : Addr} {ccd : Value} {cl : List (Str × Addr)}

-- names
theorem nmL {x : Str} {pos : Pos} {v : Value} {Q : Value → Shared → Prop} (S : St h₀ L s₀ m G s) (hv : m x = some v) (h : Q v s)
    (hk : cs.kind = .function := by rfl) (hx : (envX cn cs L a ccd cl).kindOf x = some .local := by rfl) (hd : (x == ("__debug__" : Str)) = false := by decide) :
    wpAny M A (eval (.Name x pos) (envX cn cs L a ccd cl)) Q E s := nameX_L S.F hv h hk hx hd
theorem nmK {env' : Env} {x : Str} {pos : Pos} {v : Value} {Q : Value → Shared → Prop} (am : Amb K p loose A env h₀ L d) (S : St h₀ L s₀ m G s) (e : nsIn K mainGlobals x = some (some v)) (h : Q v s)
    (hg : env'.globals = mainGlobals := by rfl) (hk : env'.scope.kind = .function := by rfl) (hx : env'.kindOf x = some .globalImplicit := by rfl) (hd : (x == ("__debug__" : Str)) = false := by decide) :
    wpAny M A (eval (.Name x pos) env') Q E s := by
  obtain ⟨mean, mg, mb, T⟩ := am.T
  exact nameG_K S.F am.X (topRead_of T) e h hg hk hx hd
theorem nmB {x : Str} {pos : Pos} {v : Value} {Q : Value → Shared → Prop} (am : Amb K p loose A env h₀ L d) (S : St h₀ L s₀ m G s) (e : nsIn K mainGlobals x = some none) (hv : bootBuiltins x = some v) (h : Q v s)
    (hn : x ≠ "__name__" := by decide)
    (hk : cs.kind = .function := by rfl) (hx : (envX cn cs L a ccd cl).kindOf x = some .globalImplicit := by rfl) (hd : (x == ("__debug__" : Str)) = false := by decide) :
    wpAny M A (eval (.Name x pos) (envX cn cs L a ccd cl)) Q E s := by
  obtain ⟨mean, mg, mb, T⟩ := am.T
  exact nameX_B S.F am.X (topRead_of T) e hv hn h hk hx hd
theorem nmC {env' : Env} {x : Str} {pos : Pos} {c : Addr} {o : Obj} {v : Value} {Q : Value → Shared → Prop} (S : St h₀ L s₀ m G s) (hm : (c, o) ∈ G.1) (hd : o.data = .cell (some v)) (h : Q v s)
    (hc : env'.cells.lookup x = some c := by rfl) (hk : env'.scope.kind = .function := by rfl) (hx : env'.kindOf x = some .cell := by rfl) (hb : (x == ("__debug__" : Str)) = false := by decide) :
    wpAny M A (eval (.Name x pos) env') Q E s := wpAny_Name (wpAny_loadName_cell hk hx hc ⟨o, S.get hm, hd⟩ h) hb
theorem nmO {env' : Env} {x : Str} {pos : Pos} {m' : NMap} {v : Value} {Q : Value → Shared → Prop} (hn : s.heap.Ns env'.locals m') (hv : m' x = some v) (h : Q v s)
    (hk : env'.scope.kind = .function := by rfl) (hx : env'.kindOf x = some .local := by rfl) (hb : (x == ("__debug__" : Str)) = false := by decide) :
    wpAny M A (eval (.Name x pos) env') Q E s := wpAny_Name (wpAny_loadName_local hk hx hn hv h) hb
theorem ldL {x : Str} {v : Value} {Q : Value → Shared → Prop} (S : St h₀ L s₀ m G s) (hv : m x = some v) (h : Q v s)
    (hk : cs.kind = .function := by rfl) (hx : (envX cn cs L a ccd cl).kindOf x = some .local := by rfl) :
    wpAny M A (loadName (envX cn cs L a ccd cl) x) Q E s := wpAny_loadName_local hk hx S.F.ns hv h
theorem stL {x : Str} {v : Value} {Q : Unit → Shared → Prop} (S : St h₀ L s₀ m G s) (h : ∀ s', St h₀ L s₀ (fun y => if y = x then some v else m y) G s' → Q () s')
    (hk : cs.kind = .function := by rfl) (hx : (envX cn cs L a ccd cl).kindOf x = some .local := by rfl) : wpAny M A (storeName (envX cn cs L a ccd cl) x v) Q E s :=
  storeX_L S.F S.N (fun h' F' N' => h _ (S.both F' N' rfl (Nat.le_succ _))) hk hx

-- constants
theorem cInt {env' : Env} {i : Int} {k : Nat} {pos : Pos} {Q : Value → Shared → Prop} (S : St h₀ L s₀ m G s) (h : ∀ t s', St h₀ L s₀ m G s' → Q (.int i t) s') : wpAny M A (eval (.Constant (.int i) k pos) env') Q E s :=
  wpAny_Constant_int (h _ _ (S.toks (Nat.le_succ _)))
theorem cFlt {Ld : Led} {Tk : Tks} {env' : Env} {b : UInt64} {k : Nat} {pos : Pos} {Q : Value → Shared → Prop} (S : St h₀ L s₀ m (Ld, Tk) s) (h : ∀ t s', St h₀ L s₀ m (Ld, (t, b) :: Tk) s' → Q (.float b t) s') : wpAny M A (eval (.Constant (.float b) k pos) env') Q E s :=
  AutoFloatOps.wpAny_Constant_float (h _ _ (S.tok b))

-- displays
theorem dTup {Ld : Led} {Tk : Tks} {vs : List Value} {Q : Value → Shared → Prop} (S : St h₀ L s₀ m (Ld, Tk) s) (h : ∀ a s', St h₀ L s₀ m ((a, tupO vs) :: Ld, Tk) s' → (∀ p ∈ Ld, p.1 ≠ a) → Q (.ref a) s') (hsz : vs.length ≤ 1000 := by decide) : wpAny M A (newTuple vs) Q E s :=
  newTuple_N S.F S.N (fun h' F' N' => h _ _ (S.heap F' N' rfl) fun p hp => Nat.ne_of_lt (Heap.lt_size (S.N p hp).1)) (Nat.le_trans hsz (by rw [sizeLine_eq]; decide))
theorem dLst {Ld : Led} {Tk : Tks} {vs : List Value} {Q : Value → Shared → Prop} (S : St h₀ L s₀ m (Ld, Tk) s) (h : ∀ a s', St h₀ L s₀ m ((a, lstO vs 0) :: Ld, Tk) s' → (∀ p ∈ Ld, p.1 ≠ a) → Q (.ref a) s') (hsz : vs.length ≤ 1000 := by decide) : wpAny M A (newList vs) Q E s :=
  newList_N S.F S.N (fun h' F' N' => h _ _ (S.heap F' N' rfl) fun p hp => Nat.ne_of_lt (Heap.lt_size (S.N p hp).1)) (Nat.le_trans hsz (by rw [sizeLine_eq]; decide))
end

section
variable {prog : Program} {w : World} {A : Around} {E : Value → Shared → Prop} {h₀ : Heap} {L : Addr} {s₀ s : Shared} {m : NMap} {G : Ctx} {Q : Value → Shared → Prop} {t u : Nat}
-- ints
theorem iAdd {a b : Int} (S : St h₀ L s₀ m G s) (h : ∀ t s', St h₀ L s₀ m G s' → Q (.int (a + b) t) s') : wpAny (model prog w) A (binaryOp .Add (.int a t) (.int b u)) Q E s := add_int (h _ _ (S.toks (Nat.le_succ _)))
theorem iSub {a b : Int} (S : St h₀ L s₀ m G s) (h : ∀ t s', St h₀ L s₀ m G s' → Q (.int (a - b) t) s') : wpAny (model prog w) A (binaryOp .Sub (.int a t) (.int b u)) Q E s := sub_int (h _ _ (S.toks (Nat.le_succ _)))
theorem iEq {a b : Int} (h : Q (.bool (a == b)) s) : wpAny (model prog w) A (compareOp .Eq (.int a t) (.int b u)) Q E s := eq_int h
-- floats
theorem fAdd {Ld : Led} {Tk : Tks} {a b : UInt64} (S : St h₀ L s₀ m (Ld, Tk) s) (h : ∀ t s', St h₀ L s₀ m (Ld, (t, Float64.add a b) :: Tk) s' → Q (.float (Float64.add a b) t) s') : wpAny (model prog w) A (binaryOp .Add (.float a t) (.float b u)) Q E s := AutoFloatOps.add_0 (h _ _ (S.tok _))
theorem fSub {Ld : Led} {Tk : Tks} {a b : UInt64} (S : St h₀ L s₀ m (Ld, Tk) s) (h : ∀ t s', St h₀ L s₀ m (Ld, (t, Float64.sub a b) :: Tk) s' → Q (.float (Float64.sub a b) t) s') : wpAny (model prog w) A (binaryOp .Sub (.float a t) (.float b u)) Q E s := AutoFloatOps.sub_0 (h _ _ (S.tok _))
theorem fMul {Ld : Led} {Tk : Tks} {a b : UInt64} (S : St h₀ L s₀ m (Ld, Tk) s) (h : ∀ t s', St h₀ L s₀ m (Ld, (t, Float64.mul a b) :: Tk) s' → Q (.float (Float64.mul a b) t) s') : wpAny (model prog w) A (binaryOp .Mult (.float a t) (.float b u)) Q E s := AutoFloatOps.mul_0 (h _ _ (S.tok _))
theorem fDiv {Ld : Led} {Tk : Tks} {a b : UInt64} (S : St h₀ L s₀ m (Ld, Tk) s) (hb : Float64.isZero b = false) (h : ∀ t s', St h₀ L s₀ m (Ld, (t, Float64.div a b) :: Tk) s' → Q (.float (Float64.div a b) t) s') : wpAny (model prog w) A (binaryOp .Div (.float a t) (.float b u)) Q E s := AutoFloatOps.truediv_1 (by rw [hb]; decide) (h _ _ (S.tok _))
theorem fMod {Ld : Led} {Tk : Tks} {a b : UInt64} (S : St h₀ L s₀ m (Ld, Tk) s) (hb : Float64.isZero b = false) (h : ∀ t s', St h₀ L s₀ m (Ld, (t, (Float64.divmod a b).2) :: Tk) s' → Q (.float (Float64.divmod a b).2 t) s') : wpAny (model prog w) A (binaryOp .Mod (.float a t) (.float b u)) Q E s := AutoFloatOps.mod_1 (by rw [hb]; decide) (h _ _ (S.tok _))
theorem fSubI {Ld : Led} {Tk : Tks} {a : UInt64} {b : Int} (S : St h₀ L s₀ m (Ld, Tk) s) (hb : Float64.isInf (Float64.ofInt b) = false) (h : ∀ t s', St h₀ L s₀ m (Ld, (t, Float64.sub a (Float64.ofInt b)) :: Tk) s' → Q (.float (Float64.sub a (Float64.ofInt b)) t) s') : wpAny (model prog w) A (binaryOp .Sub (.float a t) (.int b u)) Q E s := AutoFloatOps.sub_fi_1 (by rw [hb]; decide) (h _ _ (S.tok _))
theorem fDivII {Ld : Led} {Tk : Tks} {a b : Int} (S : St h₀ L s₀ m (Ld, Tk) s) (hb : (b == 0) = false) (hi : Float64.isInf (Float64.ofFrac (decide (a < 0) != decide (b < 0)) a.natAbs b.natAbs) = false)
    (h : ∀ t s', St h₀ L s₀ m (Ld, (t, Float64.ofFrac (decide (a < 0) != decide (b < 0)) a.natAbs b.natAbs) :: Tk) s' → Q (.float (Float64.ofFrac (decide (a < 0) != decide (b < 0)) a.natAbs b.natAbs) t) s') :
    wpAny (model prog w) A (binaryOp .Div (.int a t) (.int b u)) Q E s := AutoIntOps.truediv_2 (by rw [hb]; decide) (by rw [hi]; decide) (h _ _ (S.tok _))
theorem fEq {a b : UInt64} (h : Q (.bool (Float64.cmp a b == some Ordering.eq)) s) : wpAny (model prog w) A (compareOp .Eq (.float a t) (.float b u)) Q E s := AutoFloatOps.eq_0 h
theorem fLe {a b : UInt64} (h : Q (.bool (Float64.cmp a b == some Ordering.lt || Float64.cmp a b == some Ordering.eq)) s) : wpAny (model prog w) A (compareOp .LtE (.float a t) (.float b u)) Q E s := AutoFloatOps.le_0 h

def ltF (x y : UInt64) : Bool := Float64.cmp x y == some .lt
def max3F (a b c : UInt64) : UInt64 := if ltF (if ltF a b then b else a) c then c else (if ltF a b then b else a)
def min3F (a b c : UInt64) : UInt64 := if ltF c (if ltF b a then b else a) then c else (if ltF b a then b else a)

theorem best3 (bt : Nat → Nat → Bool) : argBest bt 2 = (if bt 2 (if bt 1 0 then 1 else 0) then 2 else (if bt 1 0 then 1 else 0)) := rfl

theorem fMax {a b c : UInt64} {t1 t2 t3 : Nat} (hh : A.handled = none) (S : St h₀ L s₀ m G s) (m1 : (t1, a) ∈ G.2) (m2 : (t2, b) ∈ G.2) (m3 : (t3, c) ∈ G.2)
    (h : ∀ t s', St h₀ L s₀ m G s' → (t, max3F a b c) ∈ G.2 → Q (.float (max3F a b c) t) s') : wpAny (model prog w) A (call (.builtin "max") [.float a t1, .float b t2, .float c t3]) Q E s := by
  have hT : (s.heap.push { cls := .type "tuple", data := .seq #[.float a t1, .float b t2, .float c t3] }).IsTuple s.heap.objs.size #[.float a t1, .float b t2, .float c t3] := ⟨_, Heap.get?_push_size _ rfl, rfl, 0, rfl⟩
  refine wpAny_with_toks (n := s.toks) (Nat.le_refl _) (call_max_three (wpAny_pyIter_tuple hT ?_))
  have hsz : (s.heap.push { cls := .type "tuple", data := .seq #[.float a t1, .float b t2, .float c t3] }).objs.size = s.heap.objs.size + 1 := Heap.size_push ..
  refine ⟨_, [_, s.heap.objs.size], [_], _, _, _, _, rfl, Walks.tuple (A := A.in1) hh _ s.heap.objs.size (by rw [hsz]; exact Nat.ne_of_lt (Nat.lt_succ_self _)) #[.float a t1, .float b t2, .float c t3],
    ⟨⟨_, Heap.get?_push_size _ rfl, rfl, rfl⟩, hT.push _⟩, fun d hd => ?_, by simp, Flt.cmpOf_gt #[.float a t1, .float b t2, .float c t3] (by intro v hv; simp at hv; rcases hv with rfl | rfl | rfl <;> exact .float _ _), fun v h' tk hP hk htk => ?_⟩
  · show d < ((s.heap.push _).push _).objs.size
    rw [Heap.size_push, hsz]
    rcases List.mem_cons.mp hd with rfl | hd
    · rw [hsz]; exact Nat.lt_succ_self _
    · rcases List.mem_cons.mp hd with rfl | hd
      · exact Nat.lt_succ_of_lt (Nat.lt_succ_self _)
      · cases hd
  · have hold : ∀ d o, s.heap.get? d = some o → h'.get? d = some o := fun d o e => by
      refine hk d o (fun hm => ?_) (Heap.get?_push_of_some _ (Heap.get?_push_of_some _ e))
      rcases List.mem_cons.mp hm with e1 | hm
      · have := Heap.lt_size e; rw [e1, hsz] at this; exact Nat.lt_irrefl _ (Nat.lt_of_succ_lt this)
      · cases hm
    have S' : St h₀ L s₀ m G { s with heap := h', toks := tk } := S.both (S.F.keeps hold) (S.N.grown hold) rfl htk
    have key : ∃ t, v = .float (max3F a b c) t ∧ (t, max3F a b c) ∈ G.2 := by
      have hP' : (#[Value.float a t1, .float b t2, .float c t3] : Array Value)[argBest (fun i j => Flt.ltV ((#[Value.float a t1, .float b t2, .float c t3] : Array Value).getD j .none) ((#[Value.float a t1, .float b t2, .float c t3] : Array Value).getD i .none)) 2]? = some v := hP
      rw [best3] at hP'
      have e10 : Flt.ltV ((#[Value.float a t1, .float b t2, .float c t3] : Array Value).getD 0 .none) ((#[Value.float a t1, .float b t2, .float c t3] : Array Value).getD 1 .none) = ltF a b := rfl
      simp only [e10] at hP'
      unfold max3F
      cases hab : ltF a b with
      | true =>
        rw [hab] at hP'
        simp only [if_true] at hP' ⊢
        have e21 : Flt.ltV ((#[Value.float a t1, .float b t2, .float c t3] : Array Value).getD 1 .none) ((#[Value.float a t1, .float b t2, .float c t3] : Array Value).getD 2 .none) = ltF b c := rfl
        rw [e21] at hP'
        cases hbc : ltF b c with
        | true => rw [hbc] at hP'; exact ⟨t3, by simpa using hP'.symm, m3⟩
        | false => rw [hbc] at hP'; exact ⟨t2, by simpa using hP'.symm, m2⟩
      | false =>
        rw [hab] at hP'
        simp only [Bool.false_eq_true, if_false] at hP' ⊢
        have e20 : Flt.ltV ((#[Value.float a t1, .float b t2, .float c t3] : Array Value).getD 0 .none) ((#[Value.float a t1, .float b t2, .float c t3] : Array Value).getD 2 .none) = ltF a c := rfl
        rw [e20] at hP'
        cases hac : ltF a c with
        | true => rw [hac] at hP'; exact ⟨t3, by simpa using hP'.symm, m3⟩
        | false => rw [hac] at hP'; exact ⟨t1, by simpa using hP'.symm, m1⟩
    obtain ⟨t, rfl, ht⟩ := key
    exact h t _ S' ht

theorem fMin {a b c : UInt64} {t1 t2 t3 : Nat} (hh : A.handled = none) (S : St h₀ L s₀ m G s) (m1 : (t1, a) ∈ G.2) (m2 : (t2, b) ∈ G.2) (m3 : (t3, c) ∈ G.2)
    (h : ∀ t s', St h₀ L s₀ m G s' → (t, min3F a b c) ∈ G.2 → Q (.float (min3F a b c) t) s') : wpAny (model prog w) A (call (.builtin "min") [.float a t1, .float b t2, .float c t3]) Q E s := by
  have hT : (s.heap.push { cls := .type "tuple", data := .seq #[.float a t1, .float b t2, .float c t3] }).IsTuple s.heap.objs.size #[.float a t1, .float b t2, .float c t3] := ⟨_, Heap.get?_push_size _ rfl, rfl, 0, rfl⟩
  refine wpAny_with_toks (n := s.toks) (Nat.le_refl _) (call_min_three (wpAny_pyIter_tuple hT ?_))
  have hsz : (s.heap.push { cls := .type "tuple", data := .seq #[.float a t1, .float b t2, .float c t3] }).objs.size = s.heap.objs.size + 1 := Heap.size_push ..
  refine ⟨_, [_, s.heap.objs.size], [_], _, _, _, _, rfl, Walks.tuple (A := A.in1) hh _ s.heap.objs.size (by rw [hsz]; exact Nat.ne_of_lt (Nat.lt_succ_self _)) #[.float a t1, .float b t2, .float c t3],
    ⟨⟨_, Heap.get?_push_size _ rfl, rfl, rfl⟩, hT.push _⟩, fun d hd => ?_, by simp, Flt.cmpOf_lt #[.float a t1, .float b t2, .float c t3] (by intro v hv; simp at hv; rcases hv with rfl | rfl | rfl <;> exact .float _ _), fun v h' tk hP hk htk => ?_⟩
  · show d < ((s.heap.push _).push _).objs.size
    rw [Heap.size_push, hsz]
    rcases List.mem_cons.mp hd with rfl | hd
    · rw [hsz]; exact Nat.lt_succ_self _
    · rcases List.mem_cons.mp hd with rfl | hd
      · exact Nat.lt_succ_of_lt (Nat.lt_succ_self _)
      · cases hd
  · have hold : ∀ d o, s.heap.get? d = some o → h'.get? d = some o := fun d o e => by
      refine hk d o (fun hm => ?_) (Heap.get?_push_of_some _ (Heap.get?_push_of_some _ e))
      rcases List.mem_cons.mp hm with e1 | hm
      · have := Heap.lt_size e; rw [e1, hsz] at this; exact Nat.lt_irrefl _ (Nat.lt_of_succ_lt this)
      · cases hm
    have S' : St h₀ L s₀ m G { s with heap := h', toks := tk } := S.both (S.F.keeps hold) (S.N.grown hold) rfl htk
    have key : ∃ t, v = .float (min3F a b c) t ∧ (t, min3F a b c) ∈ G.2 := by
      have hP' : (#[Value.float a t1, .float b t2, .float c t3] : Array Value)[argBest (fun i j => Flt.ltV ((#[Value.float a t1, .float b t2, .float c t3] : Array Value).getD i .none) ((#[Value.float a t1, .float b t2, .float c t3] : Array Value).getD j .none)) 2]? = some v := hP
      rw [best3] at hP'
      have e10 : Flt.ltV ((#[Value.float a t1, .float b t2, .float c t3] : Array Value).getD 1 .none) ((#[Value.float a t1, .float b t2, .float c t3] : Array Value).getD 0 .none) = ltF b a := rfl
      simp only [e10] at hP'
      unfold min3F
      cases hab : ltF b a with
      | true =>
        rw [hab] at hP'
        simp only [if_true] at hP' ⊢
        have e21 : Flt.ltV ((#[Value.float a t1, .float b t2, .float c t3] : Array Value).getD 2 .none) ((#[Value.float a t1, .float b t2, .float c t3] : Array Value).getD 1 .none) = ltF c b := rfl
        rw [e21] at hP'
        cases hbc : ltF c b with
        | true => rw [hbc] at hP'; exact ⟨t3, by simpa using hP'.symm, m3⟩
        | false => rw [hbc] at hP'; exact ⟨t2, by simpa using hP'.symm, m2⟩
      | false =>
        rw [hab] at hP'
        simp only [Bool.false_eq_true, if_false] at hP' ⊢
        have e20 : Flt.ltV ((#[Value.float a t1, .float b t2, .float c t3] : Array Value).getD 2 .none) ((#[Value.float a t1, .float b t2, .float c t3] : Array Value).getD 0 .none) = ltF c a := rfl
        rw [e20] at hP'
        cases hac : ltF c a with
        | true => rw [hac] at hP'; exact ⟨t3, by simpa using hP'.symm, m3⟩
        | false => rw [hac] at hP'; exact ⟨t1, by simpa using hP'.symm, m1⟩
    obtain ⟨t, rfl, ht⟩ := key
    exact h t _ S' ht
end
end Mine

-- A8
namespace Mine
open PySem PySem.W PyProof.Rows PySem.SeqAt PySem.Calls

theorem ite_of_true {b : Bool} {P Q : Prop} (hc : b = true) (h : P) : if b = true then P else Q := by rw [if_pos hc]; exact h
theorem ite_of_false {b : Bool} {P Q : Prop} (hc : b = false) (h : Q) : if b = true then P else Q := by rw [if_neg (by rw [hc]; decide)]; exact h

section
variable {prog : Program} {w : World} {A : Around} {E : Value → Shared → Prop} {h₀ : Heap} {L : Addr} {s₀ s : Shared} {m : NMap} {G : Ctx} {Q : Value → Shared → Prop} {t u : Nat}
theorem iMod {a b : Int} (S : St h₀ L s₀ m G s) (hb : 0 < b) (h : ∀ t s', St h₀ L s₀ m G s' → Q (.int (a % b) t) s') : wpAny (model prog w) A (binaryOp .Mod (.int a t) (.int b u)) Q E s :=
  mod_int' (by omega) (by rw [Int.fmod_eq_emod_of_nonneg _ (by omega)]; exact h _ _ (S.toks (Nat.le_succ _)))
theorem iFdv {a b : Int} (S : St h₀ L s₀ m G s) (hb : 0 < b ∧ b < 1073741824) (h : ∀ t s', St h₀ L s₀ m G s' → Q (.int (a / b) t) s') : wpAny (model prog w) A (binaryOp .FloorDiv (.int a t) (.int b u)) Q E s :=
  floordiv_int (by omega) (by rw [Int.fdiv_eq_ediv_of_nonneg _ (by omega)]; exact h _ _ (S.toks (Nat.le_succ _))) (.inl (PyProof.noPylong_small (by omega)))
theorem iMul {a b : Int} (S : St h₀ L s₀ m G s) (hb : -(2 ^ 64) < a ∧ a < 2 ^ 64) (h : ∀ t s', St h₀ L s₀ m G s' → Q (.int (a * b) t) s') : wpAny (model prog w) A (binaryOp .Mult (.int a t) (.int b u)) Q E s :=
  PyProof.Rows.mul_int (h _ _ (S.toks (Nat.le_succ _))) (IntMulOk.of_left (intBits_le_64 hb.1 hb.2))
theorem iLt {a b : Int} (h : Q (.bool (decide (a < b))) s) : wpAny (model prog w) A (compareOp .Lt (.int a t) (.int b u)) Q E s := lt_int h
theorem iLe {a b : Int} (h : Q (.bool (decide (a ≤ b))) s) : wpAny (model prog w) A (compareOp .LtE (.int a t) (.int b u)) Q E s := PyProof.Rows.le_int h
theorem iNe {a b : Int} (h : Q (.bool (a != b)) s) : wpAny (model prog w) A (compareOp .NotEq (.int a t) (.int b u)) Q E s := ne_int h
theorem iAug {a b : Int} (S : St h₀ L s₀ m G s) (h : ∀ t s', St h₀ L s₀ m G s' → Q (.int (a + b) t) s') : wpAny (model prog w) A (inplaceOp .Add (.int a t) (.int b u)) Q E s := iadd_int (h _ _ (S.toks (Nat.le_succ _)))
def toI (x : UInt64) : Int := Flt.toInt Float64.truncOf x
theorem fInt {x : UInt64} (hh : A.handled = none) (S : St h₀ L s₀ m G s) (hx : Float64.isFinite x = true) (h : ∀ t s', St h₀ L s₀ m G s' → Q (.int (toI x) t) s') : wpAny (model prog w) A (call (.type "int") [.float x t]) Q E s := by
  obtain ⟨hn, hi⟩ : Float64.isNaN x = false ∧ Float64.isInf x = false := by
    unfold Float64.isFinite at hx; unfold Float64.isNaN Float64.isInf
    split at hx
    · rename_i q; rw [q]; exact ⟨rfl, rfl⟩
    · cases hx
  exact Flt.call_int_float3 hh (fun q => by rw [hn] at q; cases q) (fun q => by rw [hi] at q; cases q) fun _ => h _ _ (S.toks (Nat.le_succ _))
theorem tInt {i : Int} {Q : Bool → Shared → Prop} (h : Q (i != 0) s) : wpAny (model prog w) A (truthy (.int i t)) Q E s := PyProof.Rows.truthy_int h
end

section
variable {prog : Program} {w : World} {A : Around} {E : Value → Shared → Prop} {h₀ : Heap} {L : Addr} {s₀ s : Shared} {m : NMap} {G : Ctx} {env : Env}
theorem unp {elts : List Expr} {k} {pos : Pos} {a : Addr} {xs : List Value} {Q : Unit → Shared → Prop} (S : St h₀ L s₀ m G s) (hm : (a, tupO xs) ∈ G.1) (hh : A.handled = none)
    (h : ∀ s', St h₀ L s₀ m G s' → wpAny (model prog w) A (assignInOrder ((assignEach elts env).map (·.2)) xs) Q E s')
    (hn : (assignEach elts env).length = xs.length) (hstar : (assignEach elts env).findIdx? (·.1) = none) :
    wpAny (model prog w) A (assign (.Tuple elts k pos) env (.ref a)) Q E s :=
  unpackN_ S.F S.N (S.isTuple hm) hh (by simpa using hn) hstar fun h' F' N' => h _ (S.heap F' N' rfl)
theorem unpI {a : Addr} {xs : List Value} {n : Nat} {Q : List Value → Shared → Prop} (S : St h₀ L s₀ m G s) (hm : (a, tupO xs) ∈ G.1) (hh : A.handled = none) (hn : n = xs.length)
    (h : ∀ s', St h₀ L s₀ m G s' → Q xs s') : wpAny (model prog w) A (unpackItems (.ref a) n none) Q E s :=
  unpackItemsN_ S.F S.N (S.isTuple hm) hh (by simpa using hn) fun h' F' N' => h _ (S.heap F' N' rfl)
end
end Mine

-- L1
namespace Mine
open PySem PySem.W PyProof.Rows PySem.SeqAt PySem.Calls

section
variable {M : Model} {A : Around} {E : Value → Shared → Prop} {h₀ : Heap} {L : Addr} {s₀ s : Shared} {m : NMap} {G : Ctx} {cn : Str} {cs : Scope} {a : Addr} {ccd : Value} {cl : List (Str × Addr)}
theorem stM {x : Str} {v : Value} {Q : Unit → Shared → Prop} (S : St h₀ L s₀ m G s) (h : ∀ s', let m' : NMap := fun y => if y = x then some v else m y; St h₀ L s₀ m' G s' → Q () s')
    (hk : cs.kind = .function := by rfl) (hx : (envX cn cs L a ccd cl).kindOf x = some .local := by rfl) : wpAny M A (storeName (envX cn cs L a ccd cl) x v) Q E s := stL S h hk hx
end

section
variable {prog : Program} {w : World} {A : Around} {E : Value → Shared → Prop} {h₀ : Heap} {L : Addr} {s₀ s : Shared} {m : NMap} {Q : Value → Shared → Prop} {t u : Nat} {Ld : Led} {Tk : Tks} {a b : UInt64}
theorem lAdd (S : St h₀ L s₀ m (Ld, Tk) s) (h : ∀ t s', let x := Float64.add a b; St h₀ L s₀ m (Ld, (t, x) :: Tk) s' → Q (.float x t) s') : wpAny (model prog w) A (binaryOp .Add (.float a t) (.float b u)) Q E s := fAdd S h
theorem lSub (S : St h₀ L s₀ m (Ld, Tk) s) (h : ∀ t s', let x := Float64.sub a b; St h₀ L s₀ m (Ld, (t, x) :: Tk) s' → Q (.float x t) s') : wpAny (model prog w) A (binaryOp .Sub (.float a t) (.float b u)) Q E s := fSub S h
theorem lMul (S : St h₀ L s₀ m (Ld, Tk) s) (h : ∀ t s', let x := Float64.mul a b; St h₀ L s₀ m (Ld, (t, x) :: Tk) s' → Q (.float x t) s') : wpAny (model prog w) A (binaryOp .Mult (.float a t) (.float b u)) Q E s := fMul S h
theorem lDiv (S : St h₀ L s₀ m (Ld, Tk) s) (hb : Float64.isZero b = false) (h : ∀ t s', let x := Float64.div a b; St h₀ L s₀ m (Ld, (t, x) :: Tk) s' → Q (.float x t) s') : wpAny (model prog w) A (binaryOp .Div (.float a t) (.float b u)) Q E s := fDiv S hb h
theorem lMod (S : St h₀ L s₀ m (Ld, Tk) s) (hb : Float64.isZero b = false) (h : ∀ t s', let x := (Float64.divmod a b).2; St h₀ L s₀ m (Ld, (t, x) :: Tk) s' → Q (.float x t) s') : wpAny (model prog w) A (binaryOp .Mod (.float a t) (.float b u)) Q E s := fMod S hb h
theorem lSubI {b : Int} (S : St h₀ L s₀ m (Ld, Tk) s) (hb : Float64.isInf (Float64.ofInt b) = false) (h : ∀ t s', let x := Float64.sub a (Float64.ofInt b); St h₀ L s₀ m (Ld, (t, x) :: Tk) s' → Q (.float x t) s') : wpAny (model prog w) A (binaryOp .Sub (.float a t) (.int b u)) Q E s := fSubI S hb h
end

section
variable {K : Frag} {p : Program} {loose : List Str} {A : Around} {env : Env} {h₀ : Heap} {L : Addr} {d : Nat} {s₀ s : Shared} {m : NMap} {G : Ctx}
  {prog : Program} {w : World} {E : Value → Shared → Prop} {Q : Value → Shared → Prop}
  {name qual : Str} {params : Arguments} {body : List Stmt} {scope : Scope} {dV kV doc pm cdv ct oc : Value} {an od : Option Addr} {osl : Array (Option Value)} {f : Addr} {vs : List Value} {binds : List (Str × Value)}
theorem enterL (am : Amb K p loose A env h₀ L (d + 1)) (S : St h₀ L s₀ m G s)
    (ho : K.lookup f = some ⟨oc, od, .func (fnOf name qual params body scope dV kV doc pm an cdv ct), osl⟩) (hcd : codeIn K cdv qual = true)
    (hbind : BindsTo s (fnOf name qual params body scope dV kV doc pm an cdv ct) ⟨vs, []⟩ binds) (hloc : ∀ y ∈ binds, scope.names.lookup y.1 = some .local)
    (hco : scope.isCoroutine = false) (hgen : scope.isGenerator = false) (hk : scope.kind = .function) (hcell : ∀ x ∈ scope.names, x.2 ≠ .cell)
    (Ret : Ctx → Value → Prop)
    (h : ∀ g L' s₁, let env' := envX qual scope L' f cdv []; let A' := A.deeper env'; let m' : NMap := fun y => binds.reverse.lookup y; Amb K p loose A' env' g L' d → St g L' s m' G s₁ →
      wpAny (model prog w) A' (execs body env')
        (fun fl s₂ => ∃ m' G', St g L' s m' G' s₂ ∧ Ret G' (match fl with | .ret v => v | _ => .none)) (fun _ _ => False) s₁)
    (hQ : ∀ G' v s', St h₀ L s₀ m G' s' → Ret G' v → Q v s') : wpAny (model prog w) A (call (.ref f) vs) Q E s := enter am S ho hcd hbind hloc hco hgen hk hcell Ret h hQ
theorem enterCL (am : Amb K p loose A env h₀ L (d + 1)) (S : St h₀ L s₀ m G s)
    (ho : K.lookup f = some ⟨oc, od, .func (fnOf name qual params body scope dV kV doc pm an cdv ct), osl⟩) (hcd : codeIn K cdv qual = true)
    (hbind : BindsTo s (fnOf name qual params body scope dV kV doc pm an cdv ct) ⟨vs, []⟩ binds) (hkind : (binds.all fun y => scope.names.lookup y.1 == some .local || scope.names.lookup y.1 == some .cell) = true)
    (hnd : ((cellsFrom 0 scope.names []).map (·.1)).Nodup)
    (hco : scope.isCoroutine = false) (hgen : scope.isGenerator = false) (hk : scope.kind = .function)
    (Ret : Ctx → Value → Prop)
    (h : ∀ g L' cells s₁, let env' := envX qual scope L' f cdv (cellsFrom (L' + 1) scope.names []); let A' := A.deeper env'; let m' : NMap := bindL env'.kindOf binds fun _ => none; Amb K p loose A' env' g L' d →
      CellsAre (bindC env'.kindOf binds fun _ => none) (cellsFrom (L' + 1) scope.names []) cells →
      St g L' s m' (cells ++ G.1, G.2) s₁ → (∀ p ∈ G.1, p.1 < L') →
      wpAny (model prog w) A' (execs body env')
        (fun fl s₂ => ∃ m' G', St g L' s m' G' s₂ ∧ Ret G' (match fl with | .ret v => v | _ => .none)) (fun _ _ => False) s₁)
    (hQ : ∀ G' v s', St h₀ L s₀ m G' s' → Ret G' v → Q v s') : wpAny (model prog w) A (call (.ref f) vs) Q E s := enterC am S ho hcd hbind hkind hnd hco hgen hk Ret h hQ
theorem enterXL (am : Amb K p loose A env h₀ L (d + 1)) (S : St h₀ L s₀ m G s)
    (ho : K.lookup f = some ⟨oc, od, .func (fnOf name qual params body scope dV kV doc pm an cdv ct), osl⟩) (hcd : codeIn K cdv qual = true)
    (hbind : BindsTo s (fnOf name qual params body scope dV kV doc pm an cdv ct) ⟨vs, []⟩ binds) (hkind : (binds.all fun y => scope.names.lookup y.1 == some .local || scope.names.lookup y.1 == some .cell) = true)
    (hnd : ((cellsFrom 0 scope.names []).map (·.1)).Nodup)
    (hco : scope.isCoroutine = false) (hgen : scope.isGenerator = false) (hk : scope.kind = .function)
    (Ret : Ctx → Value → Prop)
    (h : ∀ g L' cells s₁, let env' := envX qual scope L' f cdv (cellsFrom (L' + 1) scope.names []); let A' := A.deeper env'; let m' : NMap := bindL env'.kindOf binds fun _ => none; Amb K p loose A' env' g L' d →
      CellsAre (bindC env'.kindOf binds fun _ => none) (cellsFrom (L' + 1) scope.names []) cells →
      St g L' s m' (cells ++ G.1, G.2) s₁ → (∀ p ∈ G.1, p.1 < L') →
      wpAny (model prog w) A' (execs body env')
        (fun fl s₂ => ∃ g' m' G', Tn A' g g' ∧ St g' L' s m' G' s₂ ∧ Ret G' (match fl with | .ret v => v | _ => .none)) (fun _ _ => False) s₁)
    (hQ : ∀ h₀' G' v s', Tn A h₀ h₀' → Amb K p loose A env h₀' L (d + 1) → St h₀' L s₀ m G' s' → Ret G' v → Q v s') : wpAny (model prog w) A (call (.ref f) vs) Q E s := enterX am S ho hcd hbind hkind hnd hco hgen hk Ret h hQ
end
end Mine

-- Run
set_option linter.all false
namespace Mine.Rn
open PySem PySem.W PyProof.Rows
section
noncomputable abbrev pg : Program := PySem.Challenge.rw_il0140_01.row.toRowW.prog
noncomputable def fnIn : Stmt → List (Arguments × FuncBody × Scope)
  | .FunctionDef _ a b _ _ _ s _ _ _ => [(a, .stmts b, s)]
  | _ => []
noncomputable def fns : List (Arguments × FuncBody × Scope) := pg.main.body.flatMap fun st => match st with
  | .ClassDef _ _ _ b _ _ _ _ _ _ _ => b.flatMap fnIn
  | st => fnIn st
noncomputable def fA (i : Nat) : Arguments := match fns[i]? with | some x => x.1 | none => .mk [] [] none [] [] none []
noncomputable def fB (i : Nat) : FuncBody := match fns[i]? with | some x => x.2.1 | none => .stmts []
noncomputable def fS (i : Nat) : Scope := match fns[i]? with | some x => x.2.2 | none => pg.main.scope
noncomputable def docOf : List Stmt → Str
  | .Expr (.Constant (.str d) _ _) _ :: _ => d
  | _ => Str.ofString ""
noncomputable def fD (i : Nat) : Str := match fB i with | .stmts b => docOf b | .expr _ => Str.ofString ""
noncomputable abbrev sO (x : String) : Str := Str.ofString x
noncomputable abbrev vS (x : String) (n : Nat) : Value := .str (Str.ofString x) n
noncomputable abbrev vI (i : Int) : Value := .int i 0
noncomputable abbrev de (P : Params) (x : String) (n : Nat) (v : Value) : DictEntry := .mk (PyData.keyHash P (Str.ofString x)) (vS x n) v
noncomputable abbrev cd (l : Array Value) : Array (Option Value) → Obj := .mk (.type "code") none (.fields l)
noncomputable abbrev tu (l : Array Value) : Array (Option Value) → Obj := .mk (.type "tuple") none (.seq l)
noncomputable def o11 (P : Params) : Obj := cd (#[vS "<module>" 182, vS "<module>" 183, vS "/claim/cut.py" 184, vI 1, vI 0, vI 0, vI 0, vI 0, .ref 11, .bool false, vI 181, .ref 12, .none, .none, .none, .none, vI 185, vI 1, vS "/claim/cut.py" 186]) #[]
noncomputable def o12 (P : Params) : Obj := Obj.mk (.type "frame") none Data.plain #[some (.ref 13), some (.ref 3), some (.ref 3), none, some (vS "__main__" 164), none, some (.ref 0)]
noncomputable def o13 (P : Params) : Obj := Obj.mk (.type "dict") none (Data.dict #[de P "__name__" 165 (vS "cpy313.unittest.util" 247), de P "__doc__" 166 .none, de P "__package__" 167 .none, de P "__loader__" 168 (.builtin "__main__.__loader__#opaque"), de P "__spec__" 169 .none, de P "__annotations__" 170 (.ref 6), de P "__builtins__" 171 (.ref 4), de P "__file__" 173 (vS "/claim/cut.py" 172), de P "__cached__" 174 .none, de P "_wall" 193 (.ref 21), de P "rgb_to_hls" 214 (.ref 28), de P "rgb_to_hsv" 232 (.ref 35), de P "hsv_to_rgb" 246 (.ref 42), de P "_tuplegetter" 305 (.ref 81), de P "sorted_list_difference" 320 (.ref 92), de P "unorderable_list_difference" 331 (.ref 99)] 16) #[]
noncomputable def o14 (P : Params) : Obj := Obj.mk .none none (Data.fields #[vI 1, vI 0, .ref 20, vI 5, vI 0, .ref 27, vI 28, vI 0, .ref 34, vI 47, vI 0, .ref 41, vI 69, vI 0, .ref 48, vI 87, vI 0, .ref 91, vI 126, vI 0, .ref 98]) #[]
noncomputable def o15 (P : Params) : Obj := tu (#[vS "k" 190]) #[]
noncomputable def o16 (P : Params) : Obj := Obj.mk .none none (Data.func (FuncData.mk (sO "_wall") (sO "_wall") (fA 0) (fB 0) (fS 0) 0 [] .none .none .none .none none .none .none 0)) #[]
noncomputable def o17 (P : Params) : Obj := cd (#[vS "_wall" 187, vS "_wall" 188, vS "/claim/cut.py" 189, vI 1, vI 1, vI 0, vI 0, vI 3, .ref 15, .bool true, vI 181, .ref 16, .none, .ref 17, .ref 18, .ref 19, vI 191, vI 1, vS "/claim/cut.py" 192]) #[]
noncomputable def o18 (P : Params) : Obj := Obj.mk (.type "function") none (Data.func (FuncData.mk (sO "_wall") (sO "_wall") (fA 0) (fB 0) (fS 0) 3 [] .none .none .none (vS "__main__" 164) none (.ref 20) .none 0)) #[]
noncomputable def o19 (P : Params) : Obj := tu (#[vS "r" 199, vS "g" 200, vS "b" 201, vS "maxc" 202, vS "minc" 203, vS "sumc" 204, vS "rangec" 205, vS "l" 206, vS "s" 207, vS "rc" 208, vS "gc" 209, vS "bc" 210, vS "h" 211]) #[]
noncomputable def o20 (P : Params) : Obj := Obj.mk .none none (Data.func (FuncData.mk (sO "rgb_to_hls") (sO "rgb_to_hls") (fA 1) (fB 1) (fS 1) 0 [] .none .none .none .none none .none .none 0)) #[]
noncomputable def o21 (P : Params) : Obj := cd (#[vS "rgb_to_hls" 196, vS "rgb_to_hls" 197, vS "/claim/cut.py" 198, vI 5, vI 3, vI 0, vI 0, vI 3, .ref 22, .bool true, vI 181, .ref 23, .none, .ref 24, .ref 25, .ref 26, vI 212, vI 5, vS "/claim/cut.py" 213]) #[]
noncomputable def o22 (P : Params) : Obj := Obj.mk (.type "function") none (Data.func (FuncData.mk (sO "rgb_to_hls") (sO "rgb_to_hls") (fA 1) (fB 1) (fS 1) 3 [] .none .none .none (vS "cpy313.colorsys" 194) none (.ref 27) .none 0)) #[]
noncomputable def o23 (P : Params) : Obj := tu (#[vS "r" 218, vS "g" 219, vS "b" 220, vS "maxc" 221, vS "minc" 222, vS "rangec" 223, vS "v" 224, vS "s" 225, vS "rc" 226, vS "gc" 227, vS "bc" 228, vS "h" 229]) #[]
noncomputable def o24 (P : Params) : Obj := Obj.mk .none none (Data.func (FuncData.mk (sO "rgb_to_hsv") (sO "rgb_to_hsv") (fA 2) (fB 2) (fS 2) 0 [] .none .none .none .none none .none .none 0)) #[]
noncomputable def o25 (P : Params) : Obj := cd (#[vS "rgb_to_hsv" 215, vS "rgb_to_hsv" 216, vS "/claim/cut.py" 217, vI 28, vI 3, vI 0, vI 0, vI 3, .ref 29, .bool true, vI 181, .ref 30, .none, .ref 31, .ref 32, .ref 33, vI 230, vI 28, vS "/claim/cut.py" 231]) #[]
noncomputable def o26 (P : Params) : Obj := Obj.mk (.type "function") none (Data.func (FuncData.mk (sO "rgb_to_hsv") (sO "rgb_to_hsv") (fA 2) (fB 2) (fS 2) 3 [] .none .none .none (vS "cpy313.colorsys" 194) none (.ref 34) .none 0)) #[]
noncomputable def o27 (P : Params) : Obj := tu (#[vS "h" 236, vS "s" 237, vS "v" 238, vS "i" 239, vS "f" 240, vS "p" 241, vS "q" 242, vS "t" 243]) #[]
noncomputable def o28 (P : Params) : Obj := Obj.mk .none none (Data.func (FuncData.mk (sO "hsv_to_rgb") (sO "hsv_to_rgb") (fA 3) (fB 3) (fS 3) 0 [] .none .none .none .none none .none .none 0)) #[]
noncomputable def o29 (P : Params) : Obj := cd (#[vS "hsv_to_rgb" 233, vS "hsv_to_rgb" 234, vS "/claim/cut.py" 235, vI 47, vI 3, vI 0, vI 0, vI 3, .ref 36, .bool true, vI 181, .ref 37, .none, .ref 38, .ref 39, .ref 40, vI 244, vI 47, vS "/claim/cut.py" 245]) #[]
noncomputable def o30 (P : Params) : Obj := Obj.mk (.type "function") none (Data.func (FuncData.mk (sO "hsv_to_rgb") (sO "hsv_to_rgb") (fA 3) (fB 3) (fS 3) 3 [] .none .none .none (vS "cpy313.colorsys" 194) none (.ref 41) .none 0)) #[]
noncomputable def o31 (P : Params) : Obj := Obj.mk (.type "builtin_function_or_method") none (Data.fields #[.builtin "type.__prepare__", .type "type"]) #[]
noncomputable def o32 (P : Params) : Obj := Obj.mk (.type "dict") none (Data.dict #[de P "__module__" 256 (vS "cpy313.unittest.util" 247), de P "__qualname__" 258 (vS "_tuplegetter" 257), de P "__firstlineno__" 260 (Value.int 69 259), de P "__init__" 269 (.ref 56), de P "__get__" 278 (.ref 64), de P "__set__" 287 (.ref 71), de P "__delete__" 295 (.ref 78), de P "__static_attributes__" 298 (.ref 79)] 8) #[]
noncomputable def o33 (P : Params) : Obj := Obj.mk .none none (Data.fields #[vI 71, vI 4, .ref 55, vI 75, vI 4, .ref 63, vI 82, vI 4, .ref 70, vI 85, vI 4, .ref 77]) #[]
noncomputable def o34 (P : Params) : Obj := cd (#[vS "_tuplegetter" 251, vS "_tuplegetter" 252, vS "/claim/cut.py" 253, vI 69, vI 0, vI 0, vI 0, vI 0, .ref 46, .bool false, vI 181, .ref 47, .none, .none, .none, .none, vI 254, vI 69, vS "/claim/cut.py" 255]) #[]
noncomputable def o35 (P : Params) : Obj := Obj.mk (.type "frame") none Data.plain #[some (.ref 48), some (.ref 3), some (.ref 45), none, some (vS "cpy313.unittest.util" 247), none, some (.ref 0)]
noncomputable def o36 (P : Params) : Obj := tu (#[vS "self" 264, vS "index" 265, vS "doc" 266]) #[]
noncomputable def o37 (P : Params) : Obj := Obj.mk .none none (Data.func (FuncData.mk (sO "__init__") (sO "_tuplegetter.__init__") (fA 4) (fB 4) (fS 4) 0 [] .none .none .none .none none .none .none 0)) #[]
noncomputable def o38 (P : Params) : Obj := cd (#[vS "__init__" 261, vS "_tuplegetter.__init__" 262, vS "/claim/cut.py" 263, vI 71, vI 3, vI 0, vI 0, vI 3, .ref 50, .bool true, vI 181, .ref 51, .none, .ref 52, .ref 53, .ref 54, vI 267, vI 71, vS "/claim/cut.py" 268]) #[]
noncomputable def o39 (P : Params) : Obj := Obj.mk (.type "function") none (Data.func (FuncData.mk (sO "__init__") (sO "_tuplegetter.__init__") (fA 4) (fB 4) (fS 4) 3 [] .none .none .none (vS "cpy313.unittest.util" 247) none (.ref 55) .none 0)) #[]
noncomputable def o40 (P : Params) : Obj := tu (#[.none]) #[]
noncomputable def o41 (P : Params) : Obj := tu (#[vS "self" 273, vS "obj" 274, vS "objtype" 275]) #[]
noncomputable def o42 (P : Params) : Obj := Obj.mk .none none (Data.func (FuncData.mk (sO "__get__") (sO "_tuplegetter.__get__") (fA 5) (fB 5) (fS 5) 0 [] .none .none .none .none none .none .none 0)) #[]
noncomputable def o43 (P : Params) : Obj := cd (#[vS "__get__" 270, vS "_tuplegetter.__get__" 271, vS "/claim/cut.py" 272, vI 75, vI 3, vI 0, vI 0, vI 3, .ref 58, .bool true, vI 181, .ref 59, .none, .ref 60, .ref 61, .ref 62, vI 276, vI 75, vS "/claim/cut.py" 277]) #[]
noncomputable def o44 (P : Params) : Obj := Obj.mk (.type "function") none (Data.func (FuncData.mk (sO "__get__") (sO "_tuplegetter.__get__") (fA 5) (fB 5) (fS 5) 3 [] (.ref 57) .none .none (vS "cpy313.unittest.util" 247) none (.ref 63) .none 0)) #[]
noncomputable def o45 (P : Params) : Obj := tu (#[vS "self" 282, vS "obj" 283, vS "value" 284]) #[]
noncomputable def o46 (P : Params) : Obj := Obj.mk .none none (Data.func (FuncData.mk (sO "__set__") (sO "_tuplegetter.__set__") (fA 6) (fB 6) (fS 6) 0 [] .none .none .none .none none .none .none 0)) #[]
noncomputable def o47 (P : Params) : Obj := cd (#[vS "__set__" 279, vS "_tuplegetter.__set__" 280, vS "/claim/cut.py" 281, vI 82, vI 3, vI 0, vI 0, vI 3, .ref 65, .bool true, vI 181, .ref 66, .none, .ref 67, .ref 68, .ref 69, vI 285, vI 82, vS "/claim/cut.py" 286]) #[]
noncomputable def o48 (P : Params) : Obj := Obj.mk (.type "function") none (Data.func (FuncData.mk (sO "__set__") (sO "_tuplegetter.__set__") (fA 6) (fB 6) (fS 6) 3 [] .none .none .none (vS "cpy313.unittest.util" 247) none (.ref 70) .none 0)) #[]
noncomputable def o49 (P : Params) : Obj := tu (#[vS "self" 291, vS "obj" 292]) #[]
noncomputable def o50 (P : Params) : Obj := Obj.mk .none none (Data.func (FuncData.mk (sO "__delete__") (sO "_tuplegetter.__delete__") (fA 7) (fB 7) (fS 7) 0 [] .none .none .none .none none .none .none 0)) #[]
noncomputable def o51 (P : Params) : Obj := cd (#[vS "__delete__" 288, vS "_tuplegetter.__delete__" 289, vS "/claim/cut.py" 290, vI 85, vI 2, vI 0, vI 0, vI 3, .ref 72, .bool true, vI 181, .ref 73, .none, .ref 74, .ref 75, .ref 76, vI 293, vI 85, vS "/claim/cut.py" 294]) #[]
noncomputable def o52 (P : Params) : Obj := Obj.mk (.type "function") none (Data.func (FuncData.mk (sO "__delete__") (sO "_tuplegetter.__delete__") (fA 7) (fB 7) (fS 7) 3 [] .none .none .none (vS "cpy313.unittest.util" 247) none (.ref 77) .none 0)) #[]
noncomputable def o53 (P : Params) : Obj := tu (#[vS "__doc__" 296, vS "index" 297]) #[]
noncomputable def o54 (P : Params) : Obj := Obj.mk (.type "dict") none (Data.dict #[de P "__module__" 256 (vS "cpy313.unittest.util" 247), de P "__firstlineno__" 260 (Value.int 69 259), de P "__init__" 269 (.ref 56), de P "__get__" 278 (.ref 64), de P "__set__" 287 (.ref 71), de P "__delete__" 295 (.ref 78), de P "__static_attributes__" 298 (.ref 79), de P "__dict__" 300 (.ref 82), de P "__weakref__" 302 (.ref 83), de P "__doc__" 303 .none] 4) #[]
noncomputable def o55 (P : Params) : Obj := Obj.mk (.type "type") none (Data.cls (ClassData.mk (sO "_tuplegetter") [.type "object"] [.ref 81, .type "object"] 80 (sO "_tuplegetter") true [] [] false none false)) #[none, none, some (vS "_tuplegetter" 249), some (vS "_tuplegetter" 257), some (.builtin "object.__new__"), some (.bool true)]
noncomputable def o56 (P : Params) : Obj := Obj.mk (.type "getset_descriptor") none (Data.fields #[vS "__dict__" 299, .ref 81, .builtin "function.__dict__", .builtin "function.__dict__#set"]) #[]
noncomputable def o57 (P : Params) : Obj := Obj.mk (.type "getset_descriptor") none (Data.fields #[vS "__weakref__" 301, .ref 81, .builtin "ExceptionGroup.__weakref__", .none]) #[]
noncomputable def o58 (P : Params) : Obj := Obj.mk (.type "super") none (Data.fields #[.ref 81, .ref 81, .ref 81]) #[]
noncomputable def o59 (P : Params) : Obj := Obj.mk (.type "builtin_function_or_method") none (Data.fields #[.builtin "object.__init_subclass__", .ref 81]) #[]
noncomputable def o60 (P : Params) : Obj := tu (#[vS "expected" 309, vS "actual" 310, vS "i" 311, vS "j" 312, vS "missing" 313, vS "unexpected" 314, vS "e" 315, vS "a" 316]) #[]
noncomputable def o61 (P : Params) : Obj := Obj.mk .none none (Data.func (FuncData.mk (sO "sorted_list_difference") (sO "sorted_list_difference") (fA 8) (fB 8) (fS 8) 0 [] .none .none .none .none none .none .none 0)) #[]
noncomputable def o62 (P : Params) : Obj := cd (#[vS "sorted_list_difference" 306, vS "sorted_list_difference" 307, vS "/claim/cut.py" 308, vI 87, vI 2, vI 0, vI 0, vI 3, .ref 86, .bool true, vI 181, .ref 87, .none, .ref 88, .ref 89, .ref 90, vI 317, vI 87, vS "/claim/cut.py" 318]) #[]
noncomputable def o63 (P : Params) : Obj := Obj.mk (.type "function") none (Data.func (FuncData.mk (sO "sorted_list_difference") (sO "sorted_list_difference") (fA 8) (fB 8) (fS 8) 3 [] .none .none (Value.str (fD 8) 319) (vS "cpy313.unittest.util" 247) none (.ref 91) .none 0)) #[]
noncomputable def o64 (P : Params) : Obj := tu (#[vS "expected" 324, vS "actual" 325, vS "missing" 326, vS "item" 327]) #[]
noncomputable def o65 (P : Params) : Obj := Obj.mk .none none (Data.func (FuncData.mk (sO "unorderable_list_difference") (sO "unorderable_list_difference") (fA 9) (fB 9) (fS 9) 0 [] .none .none .none .none none .none .none 0)) #[]
noncomputable def o66 (P : Params) : Obj := cd (#[vS "unorderable_list_difference" 321, vS "unorderable_list_difference" 322, vS "/claim/cut.py" 323, vI 126, vI 2, vI 0, vI 0, vI 3, .ref 93, .bool true, vI 181, .ref 94, .none, .ref 95, .ref 96, .ref 97, vI 328, vI 126, vS "/claim/cut.py" 329]) #[]
noncomputable def o67 (P : Params) : Obj := Obj.mk (.type "function") none (Data.func (FuncData.mk (sO "unorderable_list_difference") (sO "unorderable_list_difference") (fA 9) (fB 9) (fS 9) 3 [] .none .none (Value.str (fD 9) 330) (vS "cpy313.unittest.util" 247) none (.ref 98) .none 0)) #[]
noncomputable def o68 (P : Params) : Obj := Obj.mk (.type "dict") none (Data.dict #[de P "__name__" 165 (vS "cpy313.unittest.util" 247), de P "__doc__" 166 .none, de P "__package__" 167 .none, de P "__loader__" 168 (.builtin "__main__.__loader__#opaque"), de P "__spec__" 169 .none, de P "__annotations__" 170 (.ref 6), de P "__builtins__" 171 (.ref 4), de P "__file__" 173 (vS "/claim/cut.py" 172), de P "__cached__" 174 .none, de P "_wall" 193 (.ref 21), de P "rgb_to_hls" 214 (.ref 28), de P "rgb_to_hsv" 232 (.ref 35), de P "hsv_to_rgb" 246 (.ref 42), de P "_tuplegetter" 305 (.ref 81), de P "sorted_list_difference" 320 (.ref 92), de P "unorderable_list_difference" 331 (.ref 99), de P "Mismatch" 459 (.ref 170)] 17) #[]
noncomputable def o69 (P : Params) : Obj := Obj.mk .none none (Data.fields #[vI 1, vI 0, .ref 20, vI 5, vI 0, .ref 27, vI 28, vI 0, .ref 34, vI 47, vI 0, .ref 41, vI 69, vI 0, .ref 48, vI 87, vI 0, .ref 91, vI 126, vI 0, .ref 98, vI 140, vI 0, .ref 106]) #[]
noncomputable def o70 (P : Params) : Obj := tu (#[.type "tuple"]) #[]
noncomputable def o71 (P : Params) : Obj := Obj.mk (.type "dict") none (Data.dict #[de P "__module__" 339 (vS "cpy313.unittest.util" 247), de P "__qualname__" 341 (vS "Mismatch" 340), de P "__firstlineno__" 343 (Value.int 140 342), de P "__doc__" 345 (vS "Mismatch(actual, expected, value)" 344), de P "__slots__" 347 (.ref 108), de P "_fields" 351 (.ref 109), de P "_field_defaults" 352 (.ref 110), de P "__new__" 363 (.ref 117), de P "_make" 385 (.ref 126), de P "_replace" 396 (.ref 135), de P "__replace__" 397 (.ref 135), de P "__repr__" 405 (.ref 142), de P "_asdict" 412 (.ref 149), de P "__getnewargs__" 420 (.ref 156), de P "__match_args__" 424 (.ref 157), de P "actual" 434 (.ref 159), de P "expected" 444 (.ref 162), de P "value" 454 (.ref 165), de P "__static_attributes__" 455 (.ref 167), de P "__classcell__" 456 (.ref 103)] 20) #[]
noncomputable def o72 (P : Params) : Obj := Obj.mk (.type "cell") none (Data.cell (some (.ref 170))) #[]
noncomputable def o73 (P : Params) : Obj := Obj.mk .none none (Data.fields #[vI 146, vI 4, .ref 116, vI 151, vI 4, .ref 123, vI 158, vI 4, .ref 134, vI 169, vI 4, .ref 141, vI 173, vI 4, .ref 148, vI 176, vI 4, .ref 155]) #[]
noncomputable def o74 (P : Params) : Obj := cd (#[vS "Mismatch" 334, vS "Mismatch" 335, vS "/claim/cut.py" 336, vI 140, vI 0, vI 0, vI 0, vI 0, .ref 104, .bool false, vI 181, .ref 105, .none, .none, .none, .none, vI 337, vI 140, vS "/claim/cut.py" 338]) #[]
noncomputable def o75 (P : Params) : Obj := Obj.mk (.type "frame") none Data.plain #[some (.ref 106), some (.ref 3), some (.ref 102), none, some (vS "cpy313.unittest.util" 247), none, some (.ref 0)]
noncomputable def o76 (P : Params) : Obj := tu (#[vS "actual" 348, vS "expected" 349, vS "value" 350]) #[]
noncomputable def o77 (P : Params) : Obj := tu (#[vS "_cls" 356, vS "actual" 357, vS "expected" 358, vS "value" 359]) #[]
noncomputable def o78 (P : Params) : Obj := Obj.mk .none none (Data.func (FuncData.mk (sO "__new__") (sO "Mismatch.__new__") (fA 10) (fB 10) (fS 10) 0 [] .none .none .none .none none .none .none 0)) #[]
noncomputable def o79 (P : Params) : Obj := cd (#[vS "__new__" 353, vS "Mismatch.__new__" 354, vS "/claim/cut.py" 355, vI 146, vI 4, vI 0, vI 0, vI 3, .ref 111, .bool true, vI 181, .ref 112, .none, .ref 113, .ref 114, .ref 115, vI 360, vI 146, vS "/claim/cut.py" 361]) #[]
noncomputable def o80 (P : Params) : Obj := Obj.mk (.type "function") none (Data.func (FuncData.mk (sO "__new__") (sO "Mismatch.__new__") (fA 10) (fB 10) (fS 10) 3 [] .none .none (Value.str (fD 10) 362) (vS "cpy313.unittest.util" 247) none (.ref 116) .none 0)) #[]
noncomputable def o81 (P : Params) : Obj := tu (#[vS "cls" 367, vS "iterable" 368, vS "result" 369]) #[]
noncomputable def o82 (P : Params) : Obj := Obj.mk .none none (Data.func (FuncData.mk (sO "_make") (sO "Mismatch._make") (fA 11) (fB 11) (fS 11) 0 [] .none .none .none .none none .none .none 0)) #[]
noncomputable def o83 (P : Params) : Obj := cd (#[vS "_make" 364, vS "Mismatch._make" 365, vS "/claim/cut.py" 366, vI 150, vI 2, vI 0, vI 0, vI 3, .ref 118, .bool true, vI 181, .ref 119, .none, .ref 120, .ref 121, .ref 122, vI 370, vI 150, vS "/claim/cut.py" 371]) #[]
noncomputable def o84 (P : Params) : Obj := Obj.mk (.type "function") none (Data.func (FuncData.mk (sO "_make") (sO "Mismatch._make") (fA 11) (fB 11) (fS 11) 3 [] .none .none (Value.str (fD 11) 372) (vS "cpy313.unittest.util" 247) (some 127) (.ref 123) .none 0)) #[]
noncomputable def o85 (P : Params) : Obj := Obj.mk (.type "dict") none (Data.dict #[de P "__module__" 374 (vS "cpy313.unittest.util" 247), de P "__name__" 377 (vS "_make" 376), de P "__qualname__" 380 (vS "Mismatch._make" 379), de P "__doc__" 382 (Value.str (fD 11) 372), de P "__annotations__" 384 (.ref 127)] 5) #[]
noncomputable def o86 (P : Params) : Obj := Obj.mk (.type "classmethod") (some 125) (Data.fields #[.ref 124, .bool false]) #[]
noncomputable def o87 (P : Params) : Obj := tu (#[.ref 103]) #[]
noncomputable def o88 (P : Params) : Obj := tu (#[vS "__class__" 389]) #[]
noncomputable def o89 (P : Params) : Obj := tu (#[vS "self" 390, vS "kwds" 391, vS "result" 392]) #[]
noncomputable def o90 (P : Params) : Obj := Obj.mk .none none (Data.func (FuncData.mk (sO "_replace") (sO "Mismatch._replace") (fA 12) (fB 12) (fS 12) 0 [] .none .none .none .none none .none .none 0)) #[]
noncomputable def o91 (P : Params) : Obj := cd (#[vS "_replace" 386, vS "Mismatch._replace" 387, vS "/claim/cut.py" 388, vI 158, vI 1, vI 1, vI 0, vI 11, .ref 129, .bool true, vI 181, .ref 130, .none, .ref 131, .ref 132, .ref 133, vI 393, vI 158, vS "/claim/cut.py" 394]) #[]
noncomputable def o92 (P : Params) : Obj := Obj.mk (.type "function") none (Data.func (FuncData.mk (sO "_replace") (sO "Mismatch._replace") (fA 12) (fB 12) (fS 12) 3 [(sO "__class__", 103)] .none .none (Value.str (fD 12) 395) (vS "cpy313.unittest.util" 247) none (.ref 134) (.ref 128) 0)) #[]
noncomputable def o93 (P : Params) : Obj := tu (#[vS "self" 401]) #[]
noncomputable def o94 (P : Params) : Obj := Obj.mk .none none (Data.func (FuncData.mk (sO "__repr__") (sO "Mismatch.__repr__") (fA 13) (fB 13) (fS 13) 0 [] .none .none .none .none none .none .none 0)) #[]
noncomputable def o95 (P : Params) : Obj := cd (#[vS "__repr__" 398, vS "Mismatch.__repr__" 399, vS "/claim/cut.py" 400, vI 169, vI 1, vI 0, vI 0, vI 3, .ref 136, .bool true, vI 181, .ref 137, .none, .ref 138, .ref 139, .ref 140, vI 402, vI 169, vS "/claim/cut.py" 403]) #[]
noncomputable def o96 (P : Params) : Obj := Obj.mk (.type "function") none (Data.func (FuncData.mk (sO "__repr__") (sO "Mismatch.__repr__") (fA 13) (fB 13) (fS 13) 3 [] .none .none (Value.str (fD 13) 404) (vS "cpy313.unittest.util" 247) none (.ref 141) .none 0)) #[]
noncomputable def o97 (P : Params) : Obj := tu (#[vS "self" 409]) #[]
noncomputable def o98 (P : Params) : Obj := Obj.mk .none none (Data.func (FuncData.mk (sO "_asdict") (sO "Mismatch._asdict") (fA 14) (fB 14) (fS 14) 0 [] .none .none .none .none none .none .none 0)) #[]
noncomputable def o99 (P : Params) : Obj := cd (#[vS "_asdict" 406, vS "Mismatch._asdict" 407, vS "/claim/cut.py" 408, vI 173, vI 1, vI 0, vI 0, vI 3, .ref 143, .bool true, vI 181, .ref 144, .none, .ref 145, .ref 146, .ref 147, vI 410, vI 173, vS "/claim/cut.py" 411]) #[]
noncomputable def o100 (P : Params) : Obj := Obj.mk (.type "function") none (Data.func (FuncData.mk (sO "_asdict") (sO "Mismatch._asdict") (fA 14) (fB 14) (fS 14) 3 [] .none .none .none (vS "cpy313.unittest.util" 247) none (.ref 148) .none 0)) #[]
noncomputable def o101 (P : Params) : Obj := tu (#[vS "self" 416]) #[]
noncomputable def o102 (P : Params) : Obj := Obj.mk .none none (Data.func (FuncData.mk (sO "__getnewargs__") (sO "Mismatch.__getnewargs__") (fA 15) (fB 15) (fS 15) 0 [] .none .none .none .none none .none .none 0)) #[]
noncomputable def o103 (P : Params) : Obj := cd (#[vS "__getnewargs__" 413, vS "Mismatch.__getnewargs__" 414, vS "/claim/cut.py" 415, vI 176, vI 1, vI 0, vI 0, vI 3, .ref 150, .bool true, vI 181, .ref 151, .none, .ref 152, .ref 153, .ref 154, vI 417, vI 176, vS "/claim/cut.py" 418]) #[]
noncomputable def o104 (P : Params) : Obj := Obj.mk (.type "function") none (Data.func (FuncData.mk (sO "__getnewargs__") (sO "Mismatch.__getnewargs__") (fA 15) (fB 15) (fS 15) 3 [] .none .none (Value.str (fD 15) 419) (vS "cpy313.unittest.util" 247) none (.ref 155) .none 0)) #[]
noncomputable def o105 (P : Params) : Obj := tu (#[vS "actual" 421, vS "expected" 422, vS "value" 423]) #[]
noncomputable def o106 (P : Params) : Obj := Obj.mk (.type "dict") none (Data.dict #[de P "index" 431 (Value.int 0 425), de P "__doc__" 433 (vS "Alias for field number 0" 426)] 2) #[]
noncomputable def o107 (P : Params) : Obj := Obj.mk (.ref 81) (some 158) Data.plain #[]
noncomputable def o108 (P : Params) : Obj := Obj.mk (.type "frame") none (Data.dict #[de P "self" 427 (.ref 159), de P "index" 428 (Value.int 0 425), de P "doc" 429 (vS "Alias for field number 0" 426)] 3) #[]
noncomputable def o109 (P : Params) : Obj := Obj.mk (.type "dict") none (Data.dict #[de P "index" 441 (Value.int 1 435), de P "__doc__" 443 (vS "Alias for field number 1" 436)] 2) #[]
noncomputable def o110 (P : Params) : Obj := Obj.mk (.ref 81) (some 161) Data.plain #[]
noncomputable def o111 (P : Params) : Obj := Obj.mk (.type "frame") none (Data.dict #[de P "self" 437 (.ref 162), de P "index" 438 (Value.int 1 435), de P "doc" 439 (vS "Alias for field number 1" 436)] 3) #[]
noncomputable def o112 (P : Params) : Obj := Obj.mk (.type "dict") none (Data.dict #[de P "index" 451 (Value.int 2 445), de P "__doc__" 453 (vS "Alias for field number 2" 446)] 2) #[]
noncomputable def o113 (P : Params) : Obj := Obj.mk (.ref 81) (some 164) Data.plain #[]
noncomputable def o114 (P : Params) : Obj := Obj.mk (.type "frame") none (Data.dict #[de P "self" 447 (.ref 165), de P "index" 448 (Value.int 2 445), de P "doc" 449 (vS "Alias for field number 2" 446)] 3) #[]
noncomputable def o115 (P : Params) : Obj := Obj.mk (.type "list") none (Data.seq #[]) #[]
noncomputable def o116 (P : Params) : Obj := Obj.mk (.type "dict") none (Data.dict #[de P "__module__" 339 (vS "cpy313.unittest.util" 247), de P "__firstlineno__" 343 (Value.int 140 342), de P "__doc__" 345 (vS "Mismatch(actual, expected, value)" 344), de P "__slots__" 347 (.ref 108), de P "_fields" 351 (.ref 109), de P "_field_defaults" 352 (.ref 110), de P "__new__" 363 (.ref 171), de P "_make" 385 (.ref 126), de P "_replace" 396 (.ref 135), de P "__replace__" 397 (.ref 135), de P "__repr__" 405 (.ref 142), de P "_asdict" 412 (.ref 149), de P "__getnewargs__" 420 (.ref 156), de P "__match_args__" 424 (.ref 157), de P "actual" 434 (.ref 159), de P "expected" 444 (.ref 162), de P "value" 454 (.ref 165), de P "__static_attributes__" 455 (.ref 167)] 2) #[]
noncomputable def o117 (P : Params) : Obj := Obj.mk (.type "type") none (Data.cls (ClassData.mk (sO "Mismatch") [.type "tuple"] [.ref 170, .type "tuple", .type "object"] 169 (sO "Mismatch") false [] [] false none false)) #[some (.ref 100), none, some (vS "Mismatch" 332), some (vS "Mismatch" 340), some .none, some (.bool false)]
noncomputable def o118 (P : Params) : Obj := Obj.mk (.type "staticmethod") none (Data.fields #[.ref 117]) #[]
noncomputable def o119 (P : Params) : Obj := Obj.mk (.type "super") none (Data.fields #[.ref 170, .ref 170, .ref 170]) #[]
noncomputable def o120 (P : Params) : Obj := Obj.mk (.type "builtin_function_or_method") none (Data.fields #[.builtin "object.__init_subclass__", .ref 170]) #[]
noncomputable def o121 (P : Params) : Obj := Obj.mk (.type "dict") none (Data.dict #[de P "__name__" 165 (vS "law_il0140_01" 483), de P "__doc__" 166 .none, de P "__package__" 167 .none, de P "__loader__" 168 (.builtin "__main__.__loader__#opaque"), de P "__spec__" 169 .none, de P "__annotations__" 170 (.ref 6), de P "__builtins__" 171 (.ref 4), de P "__file__" 173 (vS "/claim/cut.py" 172), de P "__cached__" 174 .none, de P "_wall" 193 (.ref 21), de P "rgb_to_hls" 214 (.ref 28), de P "rgb_to_hsv" 232 (.ref 35), de P "hsv_to_rgb" 246 (.ref 42), de P "_tuplegetter" 305 (.ref 81), de P "sorted_list_difference" 320 (.ref 92), de P "unorderable_list_difference" 331 (.ref 99), de P "Mismatch" 459 (.ref 170), de P "_Mismatch" 460 (.ref 170), de P "_count_diff_all_purpose" 482 (.ref 180), de P "_law_points" 490 (.ref 185), de P "_law_colours" 505 (.ref 192), de P "_law_hsv" 511 (.ref 197), de P "_law_hls" 517 (.ref 202), de P "_law_hsv_due" 523 (.ref 207), de P "_law_hls_due" 534 (.ref 214), de P "_law_beyond" 543 (.ref 221), de P "_law_rgb_holds" 549 (.ref 226), de P "_law_alone" 555 (.ref 231), de P "_law_hsv_holds" 566 (.ref 238), de P "_law_hls_holds" 572 (.ref 243), de P "law" 578 (.ref 248)] 31) #[]
noncomputable def o122 (P : Params) : Obj := Obj.mk .none none (Data.fields #[vI 1, vI 0, .ref 20, vI 5, vI 0, .ref 27, vI 28, vI 0, .ref 34, vI 47, vI 0, .ref 41, vI 69, vI 0, .ref 48, vI 87, vI 0, .ref 91, vI 126, vI 0, .ref 98, vI 140, vI 0, .ref 106, vI 184, vI 0, .ref 179, vI 217, vI 0, .ref 184, vI 219, vI 0, .ref 191, vI 228, vI 0, .ref 196, vI 230, vI 0, .ref 201, vI 232, vI 0, .ref 206, vI 234, vI 0, .ref 213, vI 238, vI 0, .ref 220, vI 240, vI 0, .ref 225, vI 247, vI 0, .ref 230, vI 251, vI 0, .ref 237, vI 254, vI 0, .ref 242, vI 261, vI 0, .ref 247]) #[]
noncomputable def o123 (P : Params) : Obj := tu (#[vS "actual" 464, vS "expected" 465, vS "s" 466, vS "t" 467, vS "m" 468, vS "n" 469, vS "NULL" 470, vS "result" 471, vS "i" 472, vS "elem" 473, vS "cnt_s" 474, vS "cnt_t" 475, vS "j" 476, vS "other_elem" 477, vS "diff" 478]) #[]
noncomputable def o124 (P : Params) : Obj := Obj.mk .none none (Data.func (FuncData.mk (sO "_count_diff_all_purpose") (sO "_count_diff_all_purpose") (fA 16) (fB 16) (fS 16) 0 [] .none .none .none .none none .none .none 0)) #[]
noncomputable def o125 (P : Params) : Obj := cd (#[vS "_count_diff_all_purpose" 461, vS "_count_diff_all_purpose" 462, vS "/claim/cut.py" 463, vI 184, vI 2, vI 0, vI 0, vI 3, .ref 174, .bool true, vI 181, .ref 175, .none, .ref 176, .ref 177, .ref 178, vI 479, vI 184, vS "/claim/cut.py" 480]) #[]
noncomputable def o126 (P : Params) : Obj := Obj.mk (.type "function") none (Data.func (FuncData.mk (sO "_count_diff_all_purpose") (sO "_count_diff_all_purpose") (fA 16) (fB 16) (fS 16) 3 [] .none .none (Value.str (fD 16) 481) (vS "cpy313.unittest.util" 247) none (.ref 179) .none 0)) #[]
noncomputable def o127 (P : Params) : Obj := Obj.mk .none none (Data.func (FuncData.mk (sO "_law_points") (sO "_law_points") (fA 17) (fB 17) (fS 17) 0 [] .none .none .none .none none .none .none 0)) #[]
noncomputable def o128 (P : Params) : Obj := cd (#[vS "_law_points" 485, vS "_law_points" 486, vS "/claim/cut.py" 487, vI 217, vI 2, vI 0, vI 0, vI 3, .ref 181, .bool true, vI 181, .ref 182, .none, .none, .none, .ref 183, vI 488, vI 217, vS "/claim/cut.py" 489]) #[]
noncomputable def o129 (P : Params) : Obj := Obj.mk (.type "function") none (Data.func (FuncData.mk (sO "_law_points") (sO "_law_points") (fA 17) (fB 17) (fS 17) 3 [] .none .none .none (vS "law_il0140_01" 483) none (.ref 184) .none 0)) #[]
noncomputable def o130 (P : Params) : Obj := tu (#[vS "numbers" 494, vS "side" 495, vS "colours" 496, vS "number" 497, vS "turn" 498, vS "red" 499, vS "green" 500, vS "blue" 501, vS "both" 502]) #[]
noncomputable def o131 (P : Params) : Obj := Obj.mk .none none (Data.func (FuncData.mk (sO "_law_colours") (sO "_law_colours") (fA 18) (fB 18) (fS 18) 0 [] .none .none .none .none none .none .none 0)) #[]
noncomputable def o132 (P : Params) : Obj := cd (#[vS "_law_colours" 491, vS "_law_colours" 492, vS "/claim/cut.py" 493, vI 219, vI 2, vI 0, vI 0, vI 3, .ref 186, .bool true, vI 181, .ref 187, .none, .ref 188, .ref 189, .ref 190, vI 503, vI 219, vS "/claim/cut.py" 504]) #[]
noncomputable def o133 (P : Params) : Obj := Obj.mk (.type "function") none (Data.func (FuncData.mk (sO "_law_colours") (sO "_law_colours") (fA 18) (fB 18) (fS 18) 3 [] .none .none .none (vS "law_il0140_01" 483) none (.ref 191) .none 0)) #[]
noncomputable def o134 (P : Params) : Obj := Obj.mk .none none (Data.func (FuncData.mk (sO "_law_hsv") (sO "_law_hsv") (fA 19) (fB 19) (fS 20) 0 [] .none .none .none .none none .none .none 0)) #[]
noncomputable def o135 (P : Params) : Obj := cd (#[vS "_law_hsv" 506, vS "_law_hsv" 507, vS "/claim/cut.py" 508, vI 228, vI 1, vI 0, vI 0, vI 3, .ref 193, .bool true, vI 181, .ref 194, .none, .none, .none, .ref 195, vI 509, vI 228, vS "/claim/cut.py" 510]) #[]
noncomputable def o136 (P : Params) : Obj := Obj.mk (.type "function") none (Data.func (FuncData.mk (sO "_law_hsv") (sO "_law_hsv") (fA 19) (fB 19) (fS 20) 3 [] .none .none .none (vS "law_il0140_01" 483) none (.ref 196) .none 0)) #[]
noncomputable def o137 (P : Params) : Obj := Obj.mk .none none (Data.func (FuncData.mk (sO "_law_hls") (sO "_law_hls") (fA 20) (fB 20) (fS 20) 0 [] .none .none .none .none none .none .none 0)) #[]
noncomputable def o138 (P : Params) : Obj := cd (#[vS "_law_hls" 512, vS "_law_hls" 513, vS "/claim/cut.py" 514, vI 230, vI 1, vI 0, vI 0, vI 3, .ref 198, .bool true, vI 181, .ref 199, .none, .none, .none, .ref 200, vI 515, vI 230, vS "/claim/cut.py" 516]) #[]
noncomputable def o139 (P : Params) : Obj := Obj.mk (.type "function") none (Data.func (FuncData.mk (sO "_law_hls") (sO "_law_hls") (fA 20) (fB 20) (fS 20) 3 [] .none .none .none (vS "law_il0140_01" 483) none (.ref 201) .none 0)) #[]
noncomputable def o140 (P : Params) : Obj := Obj.mk .none none (Data.func (FuncData.mk (sO "_law_hsv_due") (sO "_law_hsv_due") (fA 21) (fB 21) (fS 21) 0 [] .none .none .none .none none .none .none 0)) #[]
noncomputable def o141 (P : Params) : Obj := cd (#[vS "_law_hsv_due" 518, vS "_law_hsv_due" 519, vS "/claim/cut.py" 520, vI 232, vI 1, vI 0, vI 0, vI 3, .ref 203, .bool true, vI 181, .ref 204, .none, .none, .none, .ref 205, vI 521, vI 232, vS "/claim/cut.py" 522]) #[]
noncomputable def o142 (P : Params) : Obj := Obj.mk (.type "function") none (Data.func (FuncData.mk (sO "_law_hsv_due") (sO "_law_hsv_due") (fA 21) (fB 21) (fS 21) 3 [] .none .none .none (vS "law_il0140_01" 483) none (.ref 206) .none 0)) #[]
noncomputable def o143 (P : Params) : Obj := tu (#[vS "point" 527, vS "turn" 528, vS "share" 529, vS "level" 530, vS "both" 531]) #[]
noncomputable def o144 (P : Params) : Obj := Obj.mk .none none (Data.func (FuncData.mk (sO "_law_hls_due") (sO "_law_hls_due") (fA 22) (fB 22) (fS 22) 0 [] .none .none .none .none none .none .none 0)) #[]
noncomputable def o145 (P : Params) : Obj := cd (#[vS "_law_hls_due" 524, vS "_law_hls_due" 525, vS "/claim/cut.py" 526, vI 234, vI 1, vI 0, vI 0, vI 3, .ref 208, .bool true, vI 181, .ref 209, .none, .ref 210, .ref 211, .ref 212, vI 532, vI 234, vS "/claim/cut.py" 533]) #[]
noncomputable def o146 (P : Params) : Obj := Obj.mk (.type "function") none (Data.func (FuncData.mk (sO "_law_hls_due") (sO "_law_hls_due") (fA 22) (fB 22) (fS 22) 3 [] .none .none .none (vS "law_il0140_01" 483) none (.ref 213) .none 0)) #[]
noncomputable def o147 (P : Params) : Obj := tu (#[vS "points" 538, vS "others" 539, vS "point" 540]) #[]
noncomputable def o148 (P : Params) : Obj := Obj.mk .none none (Data.func (FuncData.mk (sO "_law_beyond") (sO "_law_beyond") (fA 23) (fB 23) (fS 23) 0 [] .none .none .none .none none .none .none 0)) #[]
noncomputable def o149 (P : Params) : Obj := cd (#[vS "_law_beyond" 535, vS "_law_beyond" 536, vS "/claim/cut.py" 537, vI 238, vI 3, vI 0, vI 0, vI 3, .ref 215, .bool true, vI 181, .ref 216, .none, .ref 217, .ref 218, .ref 219, vI 541, vI 238, vS "/claim/cut.py" 542]) #[]
noncomputable def o150 (P : Params) : Obj := Obj.mk (.type "function") none (Data.func (FuncData.mk (sO "_law_beyond") (sO "_law_beyond") (fA 23) (fB 23) (fS 23) 3 [] .none .none .none (vS "law_il0140_01" 483) none (.ref 220) .none 0)) #[]
noncomputable def o151 (P : Params) : Obj := Obj.mk .none none (Data.func (FuncData.mk (sO "_law_rgb_holds") (sO "_law_rgb_holds") (fA 24) (fB 24) (fS 24) 0 [] .none .none .none .none none .none .none 0)) #[]
noncomputable def o152 (P : Params) : Obj := cd (#[vS "_law_rgb_holds" 544, vS "_law_rgb_holds" 545, vS "/claim/cut.py" 546, vI 240, vI 4, vI 0, vI 0, vI 3, .ref 222, .bool true, vI 181, .ref 223, .none, .none, .none, .ref 224, vI 547, vI 240, vS "/claim/cut.py" 548]) #[]
noncomputable def o153 (P : Params) : Obj := Obj.mk (.type "function") none (Data.func (FuncData.mk (sO "_law_rgb_holds") (sO "_law_rgb_holds") (fA 24) (fB 24) (fS 24) 3 [] .none .none .none (vS "law_il0140_01" 483) none (.ref 225) .none 0)) #[]
noncomputable def o154 (P : Params) : Obj := Obj.mk .none none (Data.func (FuncData.mk (sO "_law_alone") (sO "_law_alone") (fA 25) (fB 25) (fS 25) 0 [] .none .none .none .none none .none .none 0)) #[]
noncomputable def o155 (P : Params) : Obj := cd (#[vS "_law_alone" 550, vS "_law_alone" 551, vS "/claim/cut.py" 552, vI 247, vI 2, vI 0, vI 0, vI 3, .ref 227, .bool true, vI 181, .ref 228, .none, .none, .none, .ref 229, vI 553, vI 247, vS "/claim/cut.py" 554]) #[]
noncomputable def o156 (P : Params) : Obj := Obj.mk (.type "function") none (Data.func (FuncData.mk (sO "_law_alone") (sO "_law_alone") (fA 25) (fB 25) (fS 25) 3 [] .none .none .none (vS "law_il0140_01" 483) none (.ref 230) .none 0)) #[]
noncomputable def o157 (P : Params) : Obj := tu (#[vS "first" 559, vS "second" 560, vS "points" 561, vS "others" 562, vS "answer" 563]) #[]
noncomputable def o158 (P : Params) : Obj := Obj.mk .none none (Data.func (FuncData.mk (sO "_law_hsv_holds") (sO "_law_hsv_holds") (fA 26) (fB 26) (fS 26) 0 [] .none .none .none .none none .none .none 0)) #[]
noncomputable def o159 (P : Params) : Obj := cd (#[vS "_law_hsv_holds" 556, vS "_law_hsv_holds" 557, vS "/claim/cut.py" 558, vI 251, vI 4, vI 0, vI 0, vI 3, .ref 232, .bool true, vI 181, .ref 233, .none, .ref 234, .ref 235, .ref 236, vI 564, vI 251, vS "/claim/cut.py" 565]) #[]
noncomputable def o160 (P : Params) : Obj := Obj.mk (.type "function") none (Data.func (FuncData.mk (sO "_law_hsv_holds") (sO "_law_hsv_holds") (fA 26) (fB 26) (fS 26) 3 [] .none .none .none (vS "law_il0140_01" 483) none (.ref 237) .none 0)) #[]
noncomputable def o161 (P : Params) : Obj := Obj.mk .none none (Data.func (FuncData.mk (sO "_law_hls_holds") (sO "_law_hls_holds") (fA 27) (fB 27) (fS 27) 0 [] .none .none .none .none none .none .none 0)) #[]
noncomputable def o162 (P : Params) : Obj := cd (#[vS "_law_hls_holds" 567, vS "_law_hls_holds" 568, vS "/claim/cut.py" 569, vI 254, vI 4, vI 0, vI 0, vI 3, .ref 239, .bool true, vI 181, .ref 240, .none, .none, .none, .ref 241, vI 570, vI 254, vS "/claim/cut.py" 571]) #[]
noncomputable def o163 (P : Params) : Obj := Obj.mk (.type "function") none (Data.func (FuncData.mk (sO "_law_hls_holds") (sO "_law_hls_holds") (fA 27) (fB 27) (fS 27) 3 [] .none .none .none (vS "law_il0140_01" 483) none (.ref 242) .none 0)) #[]
noncomputable def o164 (P : Params) : Obj := Obj.mk .none none (Data.func (FuncData.mk (sO "law") (sO "law") (fA 28) (fB 28) (fS 28) 0 [] .none .none .none .none none .none .none 0)) #[]
noncomputable def o165 (P : Params) : Obj := cd (#[vS "law" 573, vS "law" 574, vS "/claim/cut.py" 575, vI 261, vI 1, vI 0, vI 0, vI 3, .ref 244, .bool true, vI 181, .ref 245, .none, .none, .none, .ref 246, vI 576, vI 261, vS "/claim/cut.py" 577]) #[]
noncomputable def o166 (P : Params) : Obj := Obj.mk (.type "function") none (Data.func (FuncData.mk (sO "law") (sO "law") (fA 28) (fB 28) (fS 28) 3 [] .none .none .none (vS "law_il0140_01" 483) none (.ref 247) .none 0)) #[]
noncomputable def hA (P : Params) : Heap := ⟨⟨[boot_o_0 P, boot_o_1 P, boot_o_2 P, boot_o_3 P, boot_o_4 P, boot_o_5 P, boot_o_6 P, boot_o_7 P, boot_o_8 P, boot_o_9 P, boot_o_10 P, boot_o_7 P, boot_o_8 P, o11 P, o12 P]⟩, (boot_heap P).life⟩
noncomputable def hC (P : Params) : BT := (.node (boot_o_0 P) (.node (boot_o_1 P) (.node (o13 P) (.node (boot_o_7 P) (.node (boot_o_7 P) (.node (o23 P) (.node (o43 P) .nil .nil) (.node (o64 P) .nil .nil)) (.node (o33 P) (.node (o53 P) .nil .nil) .nil)) (.node (boot_o_8 P) (.node (boot_o_7 P) (.node (o48 P) .nil .nil) .nil) (.node (o38 P) (.node (boot_o_8 P) .nil .nil) .nil))) (.node (boot_o_7 P) (.node (o16 P) (.node (o26 P) (.node (o45 P) .nil .nil) (.node (o67 P) .nil .nil)) (.node (boot_o_8 P) (.node (o57 P) .nil .nil) .nil)) (.node (o21 P) (.node (boot_o_7 P) (.node (boot_o_7 P) .nil .nil) .nil) (.node (boot_o_8 P) (.node (o62 P) .nil .nil) .nil)))) (.node (boot_o_5 P) (.node (boot_o_9 P) (.node (o15 P) (.node (o24 P) (.node (boot_o_7 P) .nil .nil) (.node (o65 P) .nil .nil)) (.node (o35 P) (.node (o55 P) .nil .nil) .nil)) (.node (boot_o_7 P) (.node (o29 P) (.node (boot_o_8 P) .nil .nil) .nil) (.node (o40 P) (.node (boot_o_7 P) .nil .nil) .nil))) (.node (o11 P) (.node (o18 P) (.node (boot_o_8 P) (.node (o46 P) .nil .nil) .nil) (.node (boot_o_7 P) (.node (o59 P) .nil .nil) .nil)) (.node (boot_o_7 P) (.node (o32 P) (.node (o51 P) .nil .nil) .nil) (.node (boot_o_7 P) (.node (boot_o_7 P) .nil .nil) .nil))))) (.node (boot_o_2 P) (.node (boot_o_4 P) (.node (boot_o_8 P) (.node (boot_o_8 P) (.node (boot_o_7 P) (.node (o44 P) .nil .nil) (.node (boot_o_7 P) .nil .nil)) (.node (o34 P) (.node (o54 P) .nil .nil) .nil)) (.node (o19 P) (.node (o28 P) (.node (boot_o_7 P) .nil .nil) .nil) (.node (o39 P) (.node (o60 P) .nil .nil) .nil))) (.node (o14 P) (.node (o17 P) (.node (boot_o_7 P) (.node (boot_o_7 P) .nil .nil) .nil) (.node (o36 P) (.node (o58 P) .nil .nil) .nil)) (.node (o22 P) (.node (o31 P) (.node (o50 P) .nil .nil) .nil) (.node (o41 P) (.node (o63 P) .nil .nil) .nil)))) (.node (boot_o_6 P) (.node (boot_o_10 P) (.node (boot_o_7 P) (.node (o25 P) (.node (boot_o_8 P) .nil .nil) (.node (o66 P) .nil .nil)) (.node (boot_o_7 P) (.node (o56 P) .nil .nil) .nil)) (.node (o20 P) (.node (o30 P) (.node (o49 P) .nil .nil) .nil) (.node (boot_o_7 P) (.node (o61 P) .nil .nil) .nil))) (.node (o12 P) (.node (boot_o_7 P) (.node (o27 P) (.node (o47 P) .nil .nil) .nil) (.node (o37 P) (.node (boot_o_7 P) .nil .nil) .nil)) (.node (boot_o_8 P) (.node (boot_o_7 P) (.node (o52 P) .nil .nil) .nil) (.node (o42 P) (.node (boot_o_8 P) .nil .nil) .nil))))))
noncomputable def hD (P : Params) : BT := (.node (boot_o_0 P) (.node (boot_o_1 P) (.node (o68 P) (.node (boot_o_7 P) (.node (boot_o_7 P) (.node (o23 P) (.node (o43 P) (.node (boot_o_6 P) .nil .nil) .nil) (.node (o64 P) (.node (o107 P) .nil .nil) .nil)) (.node (o33 P) (.node (o53 P) (.node (boot_o_7 P) .nil .nil) .nil) (.node (boot_o_7 P) .nil .nil))) (.node (boot_o_8 P) (.node (boot_o_7 P) (.node (o48 P) (.node (o92 P) .nil .nil) .nil) (.node (o72 P) (.node (boot_o_7 P) .nil .nil) .nil)) (.node (o38 P) (.node (boot_o_8 P) (.node (boot_o_8 P) .nil .nil) .nil) (.node (boot_o_8 P) .nil .nil)))) (.node (boot_o_7 P) (.node (o16 P) (.node (o26 P) (.node (o45 P) (.node (o89 P) .nil .nil) .nil) (.node (o67 P) (.node (o111 P) .nil .nil) .nil)) (.node (boot_o_8 P) (.node (o57 P) (.node (o98 P) .nil .nil) .nil) (.node (o78 P) .nil .nil))) (.node (o21 P) (.node (boot_o_7 P) (.node (boot_o_7 P) (.node (boot_o_7 P) .nil .nil) .nil) (.node (o75 P) (.node (o118 P) .nil .nil) .nil)) (.node (boot_o_8 P) (.node (o62 P) (.node (o103 P) .nil .nil) .nil) (.node (o83 P) .nil .nil))))) (.node (boot_o_5 P) (.node (boot_o_9 P) (.node (o15 P) (.node (o24 P) (.node (boot_o_7 P) (.node (o88 P) .nil .nil) .nil) (.node (o65 P) (.node (o109 P) .nil .nil) .nil)) (.node (o35 P) (.node (o55 P) (.node (o97 P) .nil .nil) .nil) (.node (o77 P) .nil .nil))) (.node (boot_o_7 P) (.node (o29 P) (.node (boot_o_8 P) (.node (boot_o_8 P) .nil .nil) .nil) (.node (o73 P) (.node (o116 P) .nil .nil) .nil)) (.node (o40 P) (.node (boot_o_7 P) (.node (boot_o_7 P) .nil .nil) .nil) (.node (boot_o_7 P) .nil .nil)))) (.node (o11 P) (.node (o18 P) (.node (boot_o_8 P) (.node (o46 P) (.node (o90 P) .nil .nil) .nil) (.node (o31 P) (.node (o113 P) .nil .nil) .nil)) (.node (boot_o_7 P) (.node (o59 P) (.node (o100 P) .nil .nil) .nil) (.node (o80 P) .nil .nil))) (.node (boot_o_7 P) (.node (o32 P) (.node (o51 P) (.node (o95 P) .nil .nil) .nil) (.node (o76 P) (.node (o120 P) .nil .nil) .nil)) (.node (boot_o_7 P) (.node (boot_o_7 P) (.node (o105 P) .nil .nil) .nil) (.node (o85 P) .nil .nil)))))) (.node (boot_o_2 P) (.node (boot_o_4 P) (.node (boot_o_8 P) (.node (boot_o_8 P) (.node (boot_o_7 P) (.node (o44 P) (.node (o87 P) .nil .nil) .nil) (.node (boot_o_7 P) (.node (o108 P) .nil .nil) .nil)) (.node (o34 P) (.node (o54 P) (.node (boot_o_8 P) .nil .nil) .nil) (.node (boot_o_8 P) .nil .nil))) (.node (o19 P) (.node (o28 P) (.node (boot_o_7 P) (.node (boot_o_7 P) .nil .nil) .nil) (.node (boot_o_7 P) (.node (o115 P) .nil .nil) .nil)) (.node (o39 P) (.node (o60 P) (.node (o101 P) .nil .nil) .nil) (.node (o81 P) .nil .nil)))) (.node (o69 P) (.node (o17 P) (.node (boot_o_7 P) (.node (boot_o_7 P) (.node (boot_o_7 P) .nil .nil) .nil) (.node (o70 P) (.node (o112 P) .nil .nil) .nil)) (.node (o36 P) (.node (o58 P) (.node (o99 P) .nil .nil) .nil) (.node (o79 P) .nil .nil))) (.node (o22 P) (.node (o31 P) (.node (o50 P) (.node (o94 P) .nil .nil) .nil) (.node (boot_o_7 P) (.node (o119 P) .nil .nil) .nil)) (.node (o41 P) (.node (o63 P) (.node (o104 P) .nil .nil) .nil) (.node (o84 P) .nil .nil))))) (.node (boot_o_6 P) (.node (boot_o_10 P) (.node (boot_o_7 P) (.node (o25 P) (.node (boot_o_8 P) (.node (boot_o_8 P) .nil .nil) .nil) (.node (o66 P) (.node (o110 P) .nil .nil) .nil)) (.node (boot_o_7 P) (.node (o56 P) (.node (boot_o_7 P) .nil .nil) .nil) (.node (boot_o_7 P) .nil .nil))) (.node (o20 P) (.node (o30 P) (.node (o49 P) (.node (o93 P) .nil .nil) .nil) (.node (o74 P) (.node (o117 P) .nil .nil) .nil)) (.node (boot_o_7 P) (.node (o61 P) (.node (o102 P) .nil .nil) .nil) (.node (o82 P) .nil .nil)))) (.node (o12 P) (.node (boot_o_7 P) (.node (o27 P) (.node (o47 P) (.node (o91 P) .nil .nil) .nil) (.node (o71 P) (.node (o114 P) .nil .nil) .nil)) (.node (o37 P) (.node (boot_o_7 P) (.node (boot_o_7 P) .nil .nil) .nil) (.node (boot_o_7 P) .nil .nil))) (.node (boot_o_8 P) (.node (boot_o_7 P) (.node (o52 P) (.node (o96 P) .nil .nil) .nil) (.node (boot_o_6 P) .nil .nil)) (.node (o42 P) (.node (boot_o_8 P) (.node (o106 P) .nil .nil) .nil) (.node (o86 P) .nil .nil)))))))
noncomputable def hF (P : Params) : Heap := ⟨⟨[boot_o_0 P, boot_o_1 P, boot_o_2 P, o121 P, boot_o_4 P, boot_o_5 P, boot_o_6 P, boot_o_7 P, boot_o_8 P, boot_o_9 P, boot_o_10 P, boot_o_7 P, o122 P, o11 P, o12 P, boot_o_7 P, boot_o_8 P, o15 P, boot_o_7 P, o16 P, o17 P, o18 P, boot_o_7 P, boot_o_8 P, o19 P, boot_o_7 P, o20 P, o21 P, o22 P, boot_o_7 P, boot_o_8 P, o23 P, boot_o_7 P, o24 P, o25 P, o26 P, boot_o_7 P, boot_o_8 P, o27 P, boot_o_7 P, o28 P, o29 P, o30 P, boot_o_7 P, o31 P, o32 P, boot_o_7 P, o33 P, o34 P, o35 P, boot_o_7 P, boot_o_8 P, o36 P, boot_o_7 P, o37 P, o38 P, o39 P, o40 P, boot_o_7 P, boot_o_8 P, o41 P, boot_o_7 P, o42 P, o43 P, o44 P, boot_o_7 P, boot_o_8 P, o45 P, boot_o_7 P, o46 P, o47 P, o48 P, boot_o_7 P, boot_o_8 P, o49 P, boot_o_7 P, o50 P, o51 P, o52 P, o53 P, o54 P, o55 P, o56 P, o57 P, o58 P, o59 P, boot_o_7 P, boot_o_8 P, o60 P, boot_o_7 P, o61 P, o62 P, o63 P, boot_o_7 P, boot_o_8 P, o64 P, boot_o_7 P, o65 P, o66 P, o67 P, o70 P, o31 P, o71 P, o72 P, boot_o_7 P, o73 P, o74 P, o75 P, boot_o_7 P, o76 P, boot_o_6 P, boot_o_7 P, boot_o_8 P, o77 P, boot_o_7 P, o78 P, o79 P, o80 P, boot_o_7 P, boot_o_8 P, o81 P, boot_o_7 P, o82 P, o83 P, o84 P, o85 P, o86 P, boot_o_6 P, o87 P, o88 P, boot_o_8 P, o89 P, boot_o_7 P, o90 P, o91 P, o92 P, boot_o_7 P, boot_o_8 P, o93 P, boot_o_7 P, o94 P, o95 P, o96 P, boot_o_7 P, boot_o_8 P, o97 P, boot_o_7 P, o98 P, o99 P, o100 P, boot_o_7 P, boot_o_8 P, o101 P, boot_o_7 P, o102 P, o103 P, o104 P, o105 P, o106 P, o107 P, o108 P, o109 P, o110 P, o111 P, o112 P, o113 P, o114 P, boot_o_7 P, o115 P, o116 P, o117 P, o118 P, o119 P, o120 P, boot_o_7 P, boot_o_8 P, o123 P, boot_o_7 P, o124 P, o125 P, o126 P, boot_o_7 P, boot_o_8 P, o127 P, o128 P, o129 P, boot_o_7 P, boot_o_8 P, o130 P, boot_o_7 P, o131 P, o132 P, o133 P, boot_o_7 P, boot_o_8 P, o134 P, o135 P, o136 P, boot_o_7 P, boot_o_8 P, o137 P, o138 P, o139 P, boot_o_7 P, boot_o_8 P, o140 P, o141 P, o142 P, boot_o_7 P, boot_o_8 P, o143 P, boot_o_7 P, o144 P, o145 P, o146 P, boot_o_7 P, boot_o_8 P, o147 P, boot_o_7 P, o148 P, o149 P, o150 P, boot_o_7 P, boot_o_8 P, o151 P, o152 P, o153 P, boot_o_7 P, boot_o_8 P, o154 P, o155 P, o156 P, boot_o_7 P, boot_o_8 P, o157 P, boot_o_7 P, o158 P, o159 P, o160 P, boot_o_7 P, boot_o_8 P, o161 P, o162 P, o163 P, boot_o_7 P, boot_o_8 P, o164 P, o165 P, o166 P]⟩, (boot_heap P).life⟩
noncomputable def envT : Env := { scope := pg.main.scope, locals := mainNs, globals := mainNs, cells := [], code := .ref 13, frame := some 14 }
noncomputable abbrev bT : List Stmt := behindTheImports pg
noncomputable abbrev cT : Code := .body bT envT
noncomputable abbrev l1 : List Stmt := bT.take 9
noncomputable abbrev l2 : List Stmt := (bT.drop 9).take 1
noncomputable abbrev l3 : List Stmt := bT.drop 10
noncomputable abbrev p0 : Pos := .mk 0 0 0 0
noncomputable abbrev B0 : List Frame := [topFrame p0]
set_option maxHeartbeats 0
theorem bT_eq : l1 ++ (l2 ++ l3) = bT := by kernel_rfl
theorem run0 (w : World) (os : OsState) : topGo treeTable pg w 11 (some (.ref 6)) 12 ⟨boot_heap w.params, ⟨[]⟩, boot_drawn, boot_toks, os⟩ (topStub pg) = some (⟨hA w.params, ⟨[]⟩, boot_drawn, 187, os⟩, ⟨denote treeTable cT, cT, p0, B0⟩) := by kernel_rfl
theorem runB (w : World) (os : OsState) : segRun treeTable pg w 11 (some (.ref 6)) 1 2 ⟨hA w.params, ⟨[]⟩, boot_drawn, 187, os⟩ (blockOf bT envT cT p0 B0) = some (.next, ⟨hA w.params, ⟨[]⟩, boot_drawn, 187, os⟩, cT, p0) := by kernel_rfl
theorem run1 (w : World) (os : OsState) : segRun treeTable pg w 11 (some (.ref 6)) 1 600 ⟨hA w.params, ⟨[]⟩, boot_drawn, 187, os⟩ (piecesOf l1 envT cT p0 B0) = some (.next, (SharedT.abs ⟨hC w.params, 100, (boot_heap w.params).life, ⟨[]⟩, boot_drawn, 332, os⟩), cT, (.mk 126 0 139 28)) := by kernel_rfl
theorem run2T (w : World) (os : OsState) : segRunT treeTable pg w 11 (some (.ref 6)) 1 1100 ⟨hC w.params, 100, (boot_heap w.params).life, ⟨[]⟩, boot_drawn, 332, os⟩ (piecesOf l2 envT cT (.mk 126 0 139 28) B0) = some (.next, ⟨hD w.params, 174, (boot_heap w.params).life, ⟨[]⟩, boot_drawn, 460, os⟩, cT, (.mk 140 0 182 55)) := by kernel_rfl
theorem run2 (w : World) (os : OsState) : segRun treeTable pg w 11 (some (.ref 6)) 1 1100 (SharedT.abs ⟨hC w.params, 100, (boot_heap w.params).life, ⟨[]⟩, boot_drawn, 332, os⟩) (piecesOf l2 envT cT (.mk 126 0 139 28) B0) = some (.next, (SharedT.abs ⟨hD w.params, 174, (boot_heap w.params).life, ⟨[]⟩, boot_drawn, 460, os⟩), cT, (.mk 140 0 182 55)) := segRun_of (run2T w os)
theorem run3 (w : World) (os : OsState) : topRun treeTable pg w 11 (some (.ref 6)) 500 (SharedT.abs ⟨hD w.params, 174, (boot_heap w.params).life, ⟨[]⟩, boot_drawn, 460, os⟩) (restOf l3 envT cT (.mk 140 0 182 55) B0) = some ⟨hF w.params, ⟨[]⟩, boot_drawn, 579, os⟩ := by kernel_rfl
theorem topRan (w : World) (os : OsState) : topRun treeTable pg w 11 (some (.ref 6)) (12 + (2 + (600 + (1100 + 500)))) ⟨boot_heap w.params, ⟨[]⟩, boot_drawn, boot_toks, os⟩ (topStub pg) = some ⟨hF w.params, ⟨[]⟩, boot_drawn, 579, os⟩ := by
  have k := piece_app (run1 w os) (piece_app (run2 w os) (run3 w os))
  have k' := (congrArg (fun b => topRun treeTable pg w 11 (some (.ref 6)) (600 + (1100 + 500)) ⟨hA w.params, ⟨[]⟩, boot_drawn, 187, os⟩ (restOf b envT cT p0 B0)) bT_eq).symm.trans k
  exact go_top (run0 w os) (piece_block (runB w os) k')
theorem opened (w : World) : (fencedOpening treeTable pg w 4142).map (fun s => (s.heap, s.gens, s.drawn, s.toks)) = some (boot_heap w.params, ⟨[]⟩, boot_drawn, boot_toks) := boot_open (by kernel_rfl) (by kernel_rfl) (fun s => by kernel_rfl) w
theorem sized (w : World) : ((boot_heap w.params).isNs mainGlobals && (⟨[]⟩ : Array GenState).size == 0, (boot_heap w.params).objs.size, (boot_heap w.params).nsMap mainGlobals (Str.ofString "__annotations__")) = (true, 11, some (.ref 6)) := by kernel_rfl
end
end Mine.Rn

-- Head2
namespace Mine
open PySem PySem.W PyProof.Rows
set_option maxHeartbeats 0 in
theorem ws : PySem.Challenge.rw_il0140_01.wellSaid = true := by
  unfold OpenLaw.wellSaid
  repeat' (with_reducible refine look_both ?_ ?_)
  all_goals try (unfold OpenRow.wellSaid; repeat' (with_reducible refine look_both ?_ ?_))
  all_goals try (unfold OpenRow.partSaid; repeat' (with_reducible refine look_both ?_ ?_))
  all_goals try (unfold looksOpen; repeat' (with_reducible refine look_both ?_ ?_))
  all_goals decide +kernel
def vq : Program := view (PySem.Challenge.rw_il0140_01.row.toRowW.prog) [0,1,2,3,4,5,7,8,11,12,13,14,15,16,17,18,19,20,21,22,23,24]
local macro_rules | `(tactic| o_law) => `(tactic| refine holds_law Mine.ws fun _ => ?_)
local macro_rules | `(tactic| o_head $H:term) => do
  let hl := Lean.mkIdent `hl
  let hw := Lean.mkIdent `hw
  let hc := Lean.mkIdent `hc
  `(tactic| (
    refine holds_open (q := Mine.vq) (loose := [Str.ofString "_tuplegetter", Str.ofString "Mismatch", Str.ofString "_Mismatch"]) (Xt := fun s => xlAt Mine.vq [] s && recOk (RowW.records PySem.Challenge.rw_il0140_01.row.toRowW) s) (XP := XL Mine.vq []) (Yf := Hook.obs $H) (Ya := Hook.val $H) (YP := Hook.says $H) (N := 4142) ?$hl (Hook.of $H) (Hook.keeps $H) (fun s e => xl_of s (Bool.and_eq_true_iff.mp e).1) XL.keeps (by rfl) (by rfl) (by rfl) (fun s e => recFacts_of (Bool.and_eq_true_iff.mp e).2) (by rfl) (by assumption) (by decide +kernel) ⟨rfl, rfl, rfl, rfl, rfl, by decide +kernel⟩ ?$hw ?$hc
    (case $hl:ident => exact LeftO.of_pieces (H₀ := boot_heap) (H₁ := Mine.Rn.hF) Mine.Rn.opened Mine.Rn.sized Mine.Rn.topRan (by rfl) (fun w => by kernel_rfl))))
set_option maxHeartbeats 8000000 in
open_top hd for PySem.Challenge.rw_il0140_01
end Mine

namespace Mine
open PySem PySem.W PyProof.Rows PySem.SeqAt PySem.Calls

local macro_rules | `(tactic| walk_at "mm") => `(tactic| ((try dsimp only); repeat' (first | with_reducible assumption | with_reducible exact List.mem_cons_self | with_reducible refine List.mem_cons_of_mem _ ?_)))

local macro_rules | `(tactic| walk_at "gg") => `(tactic| (refine ⟨fun p hp => ?_, fun p hp => ?_⟩ <;> walk_at "mm"))

-- A9
section

-- the floats
def eqF (x y : UInt64) : Bool := Float64.cmp x y == some .eq
def leF (x y : UInt64) : Bool := Float64.cmp x y == some .lt || Float64.cmp x y == some .eq
def f0 : UInt64 := 0
def fh : UInt64 := 0x3fe0000000000000
def f1 : UInt64 := 0x3ff0000000000000
def f2 : UInt64 := 0x4000000000000000
def f4 : UInt64 := 0x4010000000000000
def f6 : UInt64 := 0x4018000000000000
theorem z6 : Float64.isZero 4618441417868443648 = false := by decide +kernel
theorem z1 : Float64.isZero 4607182418800017408 = false := by decide +kernel
theorem z2 : Float64.isZero 4611686018427387904 = false := by decide +kernel
def good (x : UInt64) : Bool := decide (x.toNat < Float64.infMag)

def rangeF (r g b : UInt64) : UInt64 := Float64.sub (max3F r g b) (min3F r g b)
def hueF (r g b : UInt64) : UInt64 :=
  let rc := Float64.div (Float64.sub (max3F r g b) r) (rangeF r g b)
  let gc := Float64.div (Float64.sub (max3F r g b) g) (rangeF r g b)
  let bc := Float64.div (Float64.sub (max3F r g b) b) (rangeF r g b)
  (Float64.divmod (Float64.div (if eqF r (max3F r g b) then Float64.sub bc gc else if eqF g (max3F r g b) then Float64.sub (Float64.add f2 rc) bc else Float64.sub (Float64.add f4 gc) rc) f6) f1).2
def satV (r g b : UInt64) : UInt64 := Float64.div (rangeF r g b) (max3F r g b)
def lumF (r g b : UInt64) : UInt64 := Float64.div (Float64.add (max3F r g b) (min3F r g b)) f2
def satL (r g b : UInt64) : UInt64 :=
  if leF (lumF r g b) fh then Float64.div (rangeF r g b) (Float64.add (max3F r g b) (min3F r g b)) else Float64.div (rangeF r g b) (Float64.sub (Float64.sub f2 (max3F r g b)) (min3F r g b))
def hsvOk (r g b : UInt64) : Bool :=
  !eqF (min3F r g b) (max3F r g b) && !Float64.isZero (max3F r g b) && !Float64.isZero (rangeF r g b) && good (hueF r g b) && good (satV r g b) && good (max3F r g b)
def hlsOk (r g b : UInt64) : Bool :=
  !eqF (min3F r g b) (max3F r g b) && !Float64.isZero (rangeF r g b) && !Float64.isZero (Float64.add (max3F r g b) (min3F r g b)) && !Float64.isZero (Float64.sub (Float64.sub f2 (max3F r g b)) (min3F r g b)) && good (hueF r g b) && good (lumF r g b) && good (satL r g b)

def pF (s v : UInt64) : UInt64 := Float64.mul v (Float64.sub f1 s)
def qF (s v f : UInt64) : UInt64 := Float64.mul v (Float64.sub f1 (Float64.mul s f))
def tF (s v f : UInt64) : UInt64 := Float64.mul v (Float64.sub f1 (Float64.mul s (Float64.sub f1 f)))
def fracF (h : UInt64) : UInt64 := Float64.sub (Float64.mul h f6) (Float64.ofInt (toI (Float64.mul h f6)))
def rgbF (h s v : UInt64) : UInt64 × UInt64 × UInt64 :=
  let i := toI (Float64.mul h f6) % 6
  let p := pF s v
  let q := qF s v (fracF h)
  let t := tF s v (fracF h)
  if i = 0 then (v, t, p) else if i = 1 then (q, v, p) else if i = 2 then (p, v, t) else if i = 3 then (p, q, v) else if i = 4 then (t, p, v) else (v, p, q)
def rgbOk (h s v : UInt64) : Bool :=
  !eqF s f0 && Float64.isFinite (Float64.mul h f6) && !Float64.isInf (Float64.ofInt (toI (Float64.mul h f6))) && good (rgbF h s v).1 && good (rgbF h s v).2.1 && good (rgbF h s v).2.2
end

-- F1
section

def dd (n : Nat) : UInt64 := Float64.ofFrac false n 512
def mN (j k u : Nat) : Nat := j * (128 - k * u)
def mF (j k u : Nat) : UInt64 := dd (mN j k u)

theorem all_lt {n : Nat} {p : Nat → Bool} (h : (List.range n).all p = true) {i : Nat} (hi : i < n) : p i = true := List.all_eq_true.mp h i (List.mem_range.mpr hi)

theorem dd_step_ : ((List.range 512).all fun n => Nat.blt (dd n).toNat (dd (n + 1)).toNat) = true := by decide +kernel
theorem dd_step_' : ((List.range 512).all fun n => Nat.blt (dd (512 + n)).toNat (dd (512 + n + 1)).toNat) = true := by decide +kernel
theorem dd_step {n : Nat} (h : n < 1024) : (dd n).toNat < (dd (n + 1)).toNat := by
  by_cases h1 : n < 512
  · exact of_decide_eq_true (by have := all_lt dd_step_ h1; simpa using this)
  · have := all_lt dd_step_' (i := n - 512) (by lia)
    have e : 512 + (n - 512) = n := by lia
    rw [e] at this
    simpa using this
theorem dd_lt {a : Nat} : ∀ {b : Nat}, a < b → b ≤ 1024 → (dd a).toNat < (dd b).toNat := by
  intro b
  induction b with
  | zero => intro h; lia
  | succ b ih =>
    intro h hb
    by_cases e : a = b
    · subst e; exact dd_step (by lia)
    · exact Nat.lt_trans (ih (by lia) (by lia)) (dd_step (by lia))
theorem dd_top : good (dd 1024) = true := by decide +kernel
theorem dd_good {n : Nat} (h : n ≤ 1024) : good (dd n) = true := by
  have h2 : (dd 1024).toNat < Float64.infMag := of_decide_eq_true dd_top
  refine decide_eq_true ?_
  by_cases e : n = 1024
  · subst e; exact h2
  · exact Nat.lt_trans (dd_lt (by lia) (Nat.le_refl _)) h2
theorem dd_inj {a b : Nat} (ha : a ≤ 1024) (hb : b ≤ 1024) (h : (dd a).toNat = (dd b).toNat) : a = b := by
  rcases Nat.lt_trichotomy a b with q | q | q
  · have := dd_lt q hb; lia
  · exact q
  · have := dd_lt q ha; lia

theorem four_ : ((List.range 5).all fun k => Float64.ofFrac false k 4 == dd (128 * k)) = true := by decide +kernel
def turnOk (T : Nat) : Bool :=
  let x := Float64.mul (Float64.ofFrac false T 64) f6
  Float64.isFinite x && !Float64.isInf (Float64.ofInt (toI x)) && toI x % 6 == ((3 * (T % 64) / 32 : Nat) : Int) && Float64.sub x (Float64.ofInt (toI x)) == dd (16 * (3 * (T % 64) % 32))
theorem turn_ : ((List.range 288).all turnOk) = true := by decide +kernel
theorem one_ : ((List.range 33).all fun u => Float64.sub f1 (dd (16 * u)) == dd (16 * (32 - u))) = true := by decide +kernel
def all3 (p : Nat → Nat → Nat → Bool) : Bool := (List.range 4).all fun j => (List.range 4).all fun k => (List.range 33).all fun u => p (j + 1) (k + 1) u
theorem all3_at {p : Nat → Nat → Nat → Bool} (h : all3 p = true) {j k u : Nat} (hj : 1 ≤ j ∧ j ≤ 4) (hk : 1 ≤ k ∧ k ≤ 4) (hu : u ≤ 32) : p j k u = true := by
  have := all_lt (all_lt (all_lt h (i := j - 1) (by lia)) (i := k - 1) (by lia)) (i := u) (by lia)
  have e1 : j - 1 + 1 = j := by lia
  have e2 : k - 1 + 1 = k := by lia
  rwa [e1, e2] at this
theorem mid_ : all3 (fun j k u => Float64.mul (dd (128 * j)) (Float64.sub f1 (Float64.mul (dd (128 * k)) (dd (16 * u)))) == mF j k u) = true := by decide +kernel
def all2 (p : Nat → Nat → Bool) : Bool := (List.range 4).all fun j => (List.range 4).all fun k => p (j + 1) (k + 1)
theorem all2_at {p : Nat → Nat → Bool} (h : all2 p = true) {j k : Nat} (hj : 1 ≤ j ∧ j ≤ 4) (hk : 1 ≤ k ∧ k ≤ 4) : p j k = true := by
  have := all_lt (all_lt h (i := j - 1) (by lia)) (i := k - 1) (by lia)
  have e1 : j - 1 + 1 = j := by lia
  have e2 : k - 1 + 1 = k := by lia
  rwa [e1, e2] at this
theorem low_ : all2 (fun j k => Float64.mul (dd (128 * j)) (Float64.sub f1 (dd (128 * k))) == mF j k 32) = true := by decide +kernel
theorem both_ : all2 (fun j k => Float64.add (mF j k 0) (mF j k 32) == dd (32 * (j * (8 - k)))) = true := by decide +kernel
theorem mirror_ : all3 (fun j k u => Float64.sub (dd (32 * (j * (8 - k)))) (mF j k u) == mF j k (32 - u)) = true := by decide +kernel
theorem range_ : all2 (fun j k => Float64.sub (mF j k 0) (mF j k 32) == dd (32 * (j * k))) = true := by decide +kernel
theorem dev_ : all3 (fun j k u => Float64.div (Float64.sub (mF j k 0) (mF j k u)) (dd (32 * (j * k))) == dd (16 * u)) = true := by decide +kernel
theorem sat_ : all2 (fun j k => Float64.div (dd (32 * (j * k))) (mF j k 0) == dd (128 * k) && !Float64.isZero (dd (32 * (j * k))) && !Float64.isZero (mF j k 0) && !Float64.isZero (dd (32 * (j * (8 - k)))) && !Float64.isZero (Float64.sub (Float64.sub f2 (mF j k 0)) (mF j k 32))) = true := by decide +kernel
theorem lum_ : all2 (fun j k => Float64.div (dd (32 * (j * (8 - k)))) f2 == Float64.ofFrac false (j * (8 - k)) 32 &&
  (if leF (Float64.div (dd (32 * (j * (8 - k)))) f2) fh then Float64.div (dd (32 * (j * k))) (dd (32 * (j * (8 - k)))) else Float64.div (dd (32 * (j * k))) (Float64.sub (Float64.sub f2 (mF j k 0)) (mF j k 32))) ==
    Float64.ofFrac false (k * j) (if j * (8 - k) ≤ 16 then j * (8 - k) else 32 - j * (8 - k))) = true := by decide +kernel
def uOf (t : Nat) : Nat × Nat × Nat :=
  let F := 3 * t % 32
  match 3 * t / 32 with
  | 0 => (0, 32 - F, 32)
  | 1 => (F, 0, 32)
  | 2 => (32, 0, 32 - F)
  | 3 => (32, F, 0)
  | 4 => (32 - F, 32, 0)
  | _ => (0, 32, F)
def hueU (a b c : Nat) : UInt64 :=
  (Float64.divmod (Float64.div (if a == 0 then Float64.sub (dd (16 * c)) (dd (16 * b)) else if b == 0 then Float64.sub (Float64.add f2 (dd (16 * a))) (dd (16 * c)) else Float64.sub (Float64.add f4 (dd (16 * b))) (dd (16 * a))) f6) f1).2
theorem hue_ : ((List.range 64).all fun t => hueU (uOf t).1 (uOf t).2.1 (uOf t).2.2 == Float64.ofFrac false t 64) = true := by decide +kernel
theorem u_ : ((List.range 64).all fun t => let x := uOf t; min x.1 (min x.2.1 x.2.2) == 0 && max x.1 (max x.2.1 x.2.2) == 32 && uOf ((t + 32) % 64) == (32 - x.1, 32 - x.2.1, 32 - x.2.2)) = true := by decide +kernel
end

-- F2
section

theorem mN_le {j k u : Nat} (hj : j ≤ 4) : mN j k u ≤ 512 := by
  unfold mN
  exact Nat.le_trans (Nat.mul_le_mul hj (Nat.sub_le 128 (k * u))) (by decide)
theorem mN_lt {j k u u' : Nat} (hj : 1 ≤ j) (hk : 1 ≤ k ∧ k ≤ 4) (h : u' < u) (hu : u ≤ 32) : mN j k u < mN j k u' := by
  unfold mN
  have h1 : k * u' < k * u := Nat.mul_lt_mul_of_pos_left h (by lia)
  have h2 : k * u ≤ 4 * 32 := Nat.mul_le_mul hk.2 hu
  exact Nat.mul_lt_mul_of_pos_left (by lia) (by lia)
theorem mF_good {j k u : Nat} (hj : j ≤ 4) : good (mF j k u) = true := dd_good (Nat.le_trans (mN_le hj) (by decide))
theorem mF_nat {j k u : Nat} (hj : j ≤ 4) : (mF j k u).toNat < Float64.infMag := of_decide_eq_true (mF_good hj)
theorem mF_lt {j k u u' : Nat} (hj : 1 ≤ j ∧ j ≤ 4) (hk : 1 ≤ k ∧ k ≤ 4) (h : u' < u) (hu : u ≤ 32) : (mF j k u).toNat < (mF j k u').toNat :=
  dd_lt (mN_lt hj.1 hk h hu) (Nat.le_trans (mN_le hj.2) (by decide))
section
variable {j k : Nat} (hj : 1 ≤ j ∧ j ≤ 4) (hk : 1 ≤ k ∧ k ≤ 4)
include hj hk
theorem ltF_m {u u' : Nat} (hu : u ≤ 32) (hu' : u' ≤ 32) : ltF (mF j k u) (mF j k u') = decide (u' < u) := by
  unfold ltF
  rw [cmp_good (mF_nat hj.2) (mF_nat hj.2)]
  rcases Nat.lt_trichotomy u u' with q | q | q
  · have := mF_lt hj hk q hu'
    rw [Nat.compare_eq_gt.mpr this, decide_eq_false (by lia)]; rfl
  · subst q
    rw [Nat.compare_eq_eq.mpr rfl, decide_eq_false (by lia)]; rfl
  · have := mF_lt hj hk q hu
    rw [Nat.compare_eq_lt.mpr this, decide_eq_true q]; rfl
theorem eqF_m {u u' : Nat} (hu : u ≤ 32) (hu' : u' ≤ 32) : eqF (mF j k u) (mF j k u') = (u == u') := by
  unfold eqF
  rw [cmp_good (mF_nat hj.2) (mF_nat hj.2)]
  rcases Nat.lt_trichotomy u u' with q | q | q
  · have := mF_lt hj hk q hu'
    rw [Nat.compare_eq_gt.mpr this, beq_eq_false_iff_ne.mpr (by lia : u ≠ u')]; rfl
  · subst q
    rw [Nat.compare_eq_eq.mpr rfl]; simp
  · have := mF_lt hj hk q hu
    rw [Nat.compare_eq_lt.mpr this, beq_eq_false_iff_ne.mpr (by lia : u ≠ u')]; rfl
theorem max3_m {a b c : Nat} (ha : a ≤ 32) (hb : b ≤ 32) (hc : c ≤ 32) : max3F (mF j k a) (mF j k b) (mF j k c) = mF j k (min a (min b c)) := by
  unfold max3F
  rw [ltF_m hj hk ha hb]
  by_cases h1 : b < a
  · rw [decide_eq_true h1]; simp only [if_true]
    rw [ltF_m hj hk hb hc]
    by_cases h2 : c < b
    · rw [decide_eq_true h2]; simp only [if_true]; congr 1; lia
    · rw [decide_eq_false h2]; simp only [Bool.false_eq_true, if_false]; congr 1; lia
  · rw [decide_eq_false h1]; simp only [Bool.false_eq_true, if_false]
    rw [ltF_m hj hk ha hc]
    by_cases h2 : c < a
    · rw [decide_eq_true h2]; simp only [if_true]; congr 1; lia
    · rw [decide_eq_false h2]; simp only [Bool.false_eq_true, if_false]; congr 1; lia
theorem min3_m {a b c : Nat} (ha : a ≤ 32) (hb : b ≤ 32) (hc : c ≤ 32) : min3F (mF j k a) (mF j k b) (mF j k c) = mF j k (max a (max b c)) := by
  unfold min3F
  rw [ltF_m hj hk hb ha]
  by_cases h1 : a < b
  · rw [decide_eq_true h1]; simp only [if_true]
    rw [ltF_m hj hk hc hb]
    by_cases h2 : b < c
    · rw [decide_eq_true h2]; simp only [if_true]; congr 1; lia
    · rw [decide_eq_false h2]; simp only [Bool.false_eq_true, if_false]; congr 1; lia
  · rw [decide_eq_false h1]; simp only [Bool.false_eq_true, if_false]
    rw [ltF_m hj hk hc ha]
    by_cases h2 : a < c
    · rw [decide_eq_true h2]; simp only [if_true]; congr 1; lia
    · rw [decide_eq_false h2]; simp only [Bool.false_eq_true, if_false]; congr 1; lia
end

structure UOk (x : Nat × Nat × Nat) : Prop where
  lo : min x.1 (min x.2.1 x.2.2) = 0
  hi : max x.1 (max x.2.1 x.2.2) = 32
theorem uOk {t : Nat} (ht : t < 64) : UOk (uOf t) ∧ uOf ((t + 32) % 64) = (32 - (uOf t).1, 32 - (uOf t).2.1, 32 - (uOf t).2.2) := by
  have := all_lt u_ ht
  simp only [Bool.and_eq_true, beq_iff_eq] at this
  exact ⟨⟨this.1.1, this.1.2⟩, this.2⟩
theorem UOk.a {x : Nat × Nat × Nat} (h : UOk x) : x.1 ≤ 32 := by have := h.hi; lia
theorem UOk.b {x : Nat × Nat × Nat} (h : UOk x) : x.2.1 ≤ 32 := by have := h.hi; lia
theorem UOk.c {x : Nat × Nat × Nat} (h : UOk x) : x.2.2 ≤ 32 := by have := h.hi; lia

section
variable {j k : Nat} (hj : 1 ≤ j ∧ j ≤ 4) (hk : 1 ≤ k ∧ k ≤ 4)
include hj hk
theorem max_u {x : Nat × Nat × Nat} (h : UOk x) : max3F (mF j k x.1) (mF j k x.2.1) (mF j k x.2.2) = mF j k 0 := by rw [max3_m hj hk h.a h.b h.c, h.lo]
theorem min_u {x : Nat × Nat × Nat} (h : UOk x) : min3F (mF j k x.1) (mF j k x.2.1) (mF j k x.2.2) = mF j k 32 := by rw [min3_m hj hk h.a h.b h.c, h.hi]
theorem f_mid {u : Nat} (hu : u ≤ 32) : Float64.mul (dd (128 * j)) (Float64.sub f1 (Float64.mul (dd (128 * k)) (dd (16 * u)))) = mF j k u := by simpa using all3_at mid_ hj hk hu
theorem f_low : Float64.mul (dd (128 * j)) (Float64.sub f1 (dd (128 * k))) = mF j k 32 := by simpa using all2_at low_ hj hk
theorem f_both : Float64.add (mF j k 0) (mF j k 32) = dd (32 * (j * (8 - k))) := by simpa using all2_at both_ hj hk
theorem f_mirror {u : Nat} (hu : u ≤ 32) : Float64.sub (dd (32 * (j * (8 - k)))) (mF j k u) = mF j k (32 - u) := by simpa using all3_at mirror_ hj hk hu
theorem f_range : Float64.sub (mF j k 0) (mF j k 32) = dd (32 * (j * k)) := by simpa using all2_at range_ hj hk
theorem f_dev {u : Nat} (hu : u ≤ 32) : Float64.div (Float64.sub (mF j k 0) (mF j k u)) (dd (32 * (j * k))) = dd (16 * u) := by simpa using all3_at dev_ hj hk hu
theorem f_sat : Float64.div (dd (32 * (j * k))) (mF j k 0) = dd (128 * k) ∧ Float64.isZero (dd (32 * (j * k))) = false ∧ Float64.isZero (mF j k 0) = false ∧ Float64.isZero (dd (32 * (j * (8 - k)))) = false ∧ Float64.isZero (Float64.sub (Float64.sub f2 (mF j k 0)) (mF j k 32)) = false := by
  have := all2_at sat_ hj hk
  simp only [Bool.and_eq_true, beq_iff_eq, Bool.not_eq_true'] at this
  exact ⟨this.1.1.1.1, this.1.1.1.2, this.1.1.2, this.1.2, this.2⟩
theorem f_lum : Float64.div (dd (32 * (j * (8 - k)))) f2 = Float64.ofFrac false (j * (8 - k)) 32 ∧
  (if leF (Float64.div (dd (32 * (j * (8 - k)))) f2) fh then Float64.div (dd (32 * (j * k))) (dd (32 * (j * (8 - k)))) else Float64.div (dd (32 * (j * k))) (Float64.sub (Float64.sub f2 (mF j k 0)) (mF j k 32))) =
    Float64.ofFrac false (k * j) (if j * (8 - k) ≤ 16 then j * (8 - k) else 32 - j * (8 - k)) := by
  have := all2_at lum_ hj hk
  simp only [Bool.and_eq_true, beq_iff_eq] at this
  exact this
end
theorem f_one {u : Nat} (hu : u ≤ 32) : Float64.sub f1 (dd (16 * u)) = dd (16 * (32 - u)) := by simpa using all_lt one_ (i := u) (by lia)
theorem f_four {k : Nat} (hk : k ≤ 4) : Float64.ofFrac false k 4 = dd (128 * k) := by simpa using all_lt four_ (i := k) (by lia)
theorem m_zero {j k : Nat} : mF j k 0 = dd (128 * j) := by unfold mF mN; rw [Nat.mul_zero, Nat.sub_zero, Nat.mul_comm]

theorem low_good_ : all2 (fun j k => good (Float64.ofFrac false (j * (8 - k)) 32) && good (Float64.ofFrac false (k * j) (if j * (8 - k) ≤ 16 then j * (8 - k) else 32 - j * (8 - k)))) = true := by decide +kernel
theorem hue64_ : ((List.range 64).all fun t => Float64.ofFrac false t 64 == dd (8 * t)) = true := by decide +kernel
theorem f_hue64 {t : Nat} (ht : t < 64) : Float64.ofFrac false t 64 = dd (8 * t) := by simpa using all_lt hue64_ ht
theorem s_ne0_ : ((List.range 4).all fun k => !eqF (dd (128 * (k + 1))) f0) = true := by decide +kernel

section
variable {t j k : Nat} (ht : t < 64) (hj : 1 ≤ j ∧ j ≤ 4) (hk : 1 ≤ k ∧ k ≤ 4)
def colR (t k j : Nat) : UInt64 := mF j k (uOf t).1
def colG (t k j : Nat) : UInt64 := mF j k (uOf t).2.1
def colB (t k j : Nat) : UInt64 := mF j k (uOf t).2.2
include ht hj hk
theorem hue_of : hueF (colR t k j) (colG t k j) (colB t k j) = Float64.ofFrac false t 64 := by
  have h := (uOk ht).1
  have e := all_lt hue_ ht
  simp only [beq_iff_eq] at e
  rw [← e]
  unfold hueF hueU rangeF colR colG colB
  simp only [max_u hj hk h, min_u hj hk h, f_range hj hk, f_dev hj hk h.a, f_dev hj hk h.b, f_dev hj hk h.c, eqF_m hj hk h.a (Nat.zero_le _), eqF_m hj hk h.b (Nat.zero_le _)]
theorem max_of : max3F (colR t k j) (colG t k j) (colB t k j) = Float64.ofFrac false j 4 := by
  unfold colR colG colB
  rw [max_u hj hk (uOk ht).1, m_zero, f_four hj.2]
theorem sat_of : satV (colR t k j) (colG t k j) (colB t k j) = Float64.ofFrac false k 4 := by
  have h := (uOk ht).1
  unfold satV rangeF colR colG colB
  rw [max_u hj hk h, min_u hj hk h, f_range hj hk, (f_sat hj hk).1, f_four hk.2]
theorem lum_of : lumF (colR t k j) (colG t k j) (colB t k j) = Float64.ofFrac false (j * (8 - k)) 32 := by
  have h := (uOk ht).1
  unfold lumF colR colG colB
  rw [max_u hj hk h, min_u hj hk h, f_both hj hk, (f_lum hj hk).1]
theorem satL_of : satL (colR t k j) (colG t k j) (colB t k j) = Float64.ofFrac false (k * j) (if j * (8 - k) ≤ 16 then j * (8 - k) else 32 - j * (8 - k)) := by
  have h := (uOk ht).1
  rw [← (f_lum hj hk).2]
  unfold satL lumF rangeF colR colG colB
  rw [max_u hj hk h, min_u hj hk h, f_both hj hk, f_range hj hk]
theorem hsvOk_of : hsvOk (colR t k j) (colG t k j) (colB t k j) = true := by
  have h := (uOk ht).1
  unfold hsvOk
  rw [hue_of ht hj hk, sat_of ht hj hk]
  unfold rangeF colR colG colB
  rw [max_u hj hk h, min_u hj hk h, eqF_m hj hk (Nat.le_refl _) (Nat.zero_le _), f_range hj hk, (f_sat hj hk).2.1, (f_sat hj hk).2.2.1, mF_good hj.2, f_hue64 ht, f_four hk.2, dd_good (by lia), dd_good (by lia)]
  rfl
theorem hlsOk_of : hlsOk (colR t k j) (colG t k j) (colB t k j) = true := by
  have h := (uOk ht).1
  have e := all2_at low_good_ hj hk
  simp only [Bool.and_eq_true] at e
  unfold hlsOk
  rw [hue_of ht hj hk, lum_of ht hj hk, satL_of ht hj hk, e.1, e.2]
  unfold rangeF colR colG colB
  rw [max_u hj hk h, min_u hj hk h, eqF_m hj hk (Nat.le_refl _) (Nat.zero_le _), f_range hj hk, f_both hj hk, (f_sat hj hk).2.1, (f_sat hj hk).2.2.2.1, (f_sat hj hk).2.2.2.2, f_hue64 ht, dd_good (by lia)]
  rfl
end

section
variable {T j k : Nat} (hT : T < 288) (hj : 1 ≤ j ∧ j ≤ 4) (hk : 1 ≤ k ∧ k ≤ 4)
include hT hj hk
theorem rgb_of : rgbF (Float64.ofFrac false T 64) (Float64.ofFrac false k 4) (Float64.ofFrac false j 4) = (colR (T % 64) k j, colG (T % 64) k j, colB (T % 64) k j) := by
  have e := all_lt turn_ hT
  unfold turnOk at e
  simp only [Bool.and_eq_true, beq_iff_eq, Bool.not_eq_true'] at e
  obtain ⟨⟨⟨e1, e2⟩, e3⟩, e4⟩ := e
  have hF : 3 * (T % 64) % 32 ≤ 32 := by lia
  have ht : T % 64 < 64 := Nat.mod_lt _ (by decide)
  have hq : ∀ u, u ≤ 32 → qF (dd (128 * k)) (dd (128 * j)) (dd (16 * u)) = mF j k u := fun u hu => f_mid hj hk hu
  unfold rgbF fracF
  rw [e3, e4, f_four hk.2, f_four hj.2]
  have hp : pF (dd (128 * k)) (dd (128 * j)) = mF j k 32 := f_low hj hk
  have htt : tF (dd (128 * k)) (dd (128 * j)) (dd (16 * (3 * (T % 64) % 32))) = mF j k (32 - 3 * (T % 64) % 32) := by
    unfold tF; rw [f_one hF]; exact f_mid hj hk (by lia)
  have hqq := hq _ hF
  simp only [hp, htt, hqq]
  rw [show dd (128 * j) = mF j k 0 from m_zero.symm]
  unfold colR colG colB uOf
  generalize hi : 3 * (T % 64) / 32 = i
  have hi6 : i < 6 := by lia
  match i, hi6 with
  | 0, _ => rfl
  | 1, _ => rfl
  | 2, _ => rfl
  | 3, _ => rfl
  | 4, _ => rfl
  | 5, _ => rfl
theorem rgbOk_of : rgbOk (Float64.ofFrac false T 64) (Float64.ofFrac false k 4) (Float64.ofFrac false j 4) = true := by
  have e := all_lt turn_ hT
  unfold turnOk at e
  simp only [Bool.and_eq_true, beq_iff_eq, Bool.not_eq_true'] at e
  obtain ⟨⟨⟨e1, e2⟩, e3⟩, e4⟩ := e
  have e5 := all_lt s_ne0_ (i := k - 1) (by lia)
  have e6 : k - 1 + 1 = k := by lia
  rw [e6] at e5
  unfold rgbOk
  rw [rgb_of hT hj hk, f_four hk.2, e5, e1, e2]
  unfold colR colG colB
  rw [mF_good hj.2, mF_good hj.2, mF_good hj.2]
  rfl
end
section
variable {t j k : Nat} (ht : t < 64) (hj : 1 ≤ j ∧ j ≤ 4) (hk : 1 ≤ k ∧ k ≤ 4)
include ht hj hk
theorem both_of : Float64.add (max3F (colR t k j) (colG t k j) (colB t k j)) (min3F (colR t k j) (colG t k j) (colB t k j)) = dd (32 * (j * (8 - k))) := by
  have h := (uOk ht).1
  unfold colR colG colB
  rw [max_u hj hk h, min_u hj hk h, f_both hj hk]
theorem mirror_of : Float64.sub (dd (32 * (j * (8 - k)))) (colR t k j) = colR ((t + 32) % 64) k j ∧ Float64.sub (dd (32 * (j * (8 - k)))) (colG t k j) = colG ((t + 32) % 64) k j ∧ Float64.sub (dd (32 * (j * (8 - k)))) (colB t k j) = colB ((t + 32) % 64) k j := by
  obtain ⟨h, e⟩ := uOk ht
  unfold colR colG colB
  rw [e]
  exact ⟨f_mirror hj hk h.a, f_mirror hj hk h.b, f_mirror hj hk h.c⟩
end
theorem col_good {t j k : Nat} (hj : j ≤ 4) : good (colR t k j) = true ∧ good (colG t k j) = true ∧ good (colB t k j) = true := ⟨mF_good hj, mF_good hj, mF_good hj⟩

-- told as whole numbers
def pt (t k j : Nat) : List Int := [(t : Int), (k : Int), (j : Int)]
def colD (t k j : Nat) : List Int := [((colR t k j).toNat : Int), ((colG t k j).toNat : Int), ((colB t k j).toNat : Int)]
def hsvD (t k j : Nat) : List Int := [((Float64.ofFrac false t 64).toNat : Int), ((Float64.ofFrac false k 4).toNat : Int), ((Float64.ofFrac false j 4).toNat : Int)]
def hlsD (t k j : Nat) : List Int := [((Float64.ofFrac false t 64).toNat : Int), ((Float64.ofFrac false (j * (8 - k)) 32).toNat : Int), ((Float64.ofFrac false (k * j) (if j * (8 - k) ≤ 16 then j * (8 - k) else 32 - j * (8 - k))).toNat : Int)]

structure Pk (p : Nat × Nat × Nat) : Prop where
  t : p.1 < 64
  k : 1 ≤ p.2.1 ∧ p.2.1 ≤ 4
  j : 1 ≤ p.2.2 ∧ p.2.2 ≤ 4

theorem hsvD_lt {t k j t' k' j' : Nat} (p : Pk (t, k, j)) (q : Pk (t', k', j')) : hsvD t k j < hsvD t' k' j' ↔ pt t k j < pt t' k' j' := by
  have mono : ∀ {a b : Nat}, a ≤ 1024 → b ≤ 1024 → (((dd a).toNat : Int) < ((dd b).toNat : Int) ↔ (a : Int) < (b : Int)) := by
    intro a b ha hb
    rcases Nat.lt_trichotomy a b with h | h | h
    · have := dd_lt h hb; lia
    · subst h; lia
    · have := dd_lt h ha; lia
  have inj : ∀ {a b : Nat}, a ≤ 1024 → b ≤ 1024 → (((dd a).toNat : Int) = ((dd b).toNat : Int) ↔ (a : Int) = (b : Int)) := by
    intro a b ha hb
    constructor
    · intro h; rw [dd_inj ha hb (by lia)]
    · intro h; have : a = b := by lia
      rw [this]
  have := p.t; have := p.k; have := p.j; have := q.t; have := q.k; have := q.j
  simp only at *
  unfold hsvD pt
  rw [f_hue64 p.t, f_hue64 q.t, f_four p.k.2, f_four p.j.2, f_four q.k.2, f_four q.j.2]
  simp only [List.cons_lt_cons_iff, mono (a := 8 * t) (b := 8 * t') (by lia) (by lia), mono (a := 128 * k) (b := 128 * k') (by lia) (by lia), mono (a := 128 * j) (b := 128 * j') (by lia) (by lia),
    inj (a := 8 * t) (b := 8 * t') (by lia) (by lia), inj (a := 128 * k) (b := 128 * k') (by lia) (by lia), inj (a := 128 * j) (b := 128 * j') (by lia) (by lia)]
  have e1 : ((8 * t : Nat) : Int) < ((8 * t' : Nat) : Int) ↔ (t : Int) < (t' : Int) := by lia
  have e2 : ((8 * t : Nat) : Int) = ((8 * t' : Nat) : Int) ↔ (t : Int) = (t' : Int) := by lia
  have e3 : ((128 * k : Nat) : Int) < ((128 * k' : Nat) : Int) ↔ (k : Int) < (k' : Int) := by lia
  have e4 : ((128 * k : Nat) : Int) = ((128 * k' : Nat) : Int) ↔ (k : Int) = (k' : Int) := by lia
  have e5 : ((128 * j : Nat) : Int) < ((128 * j' : Nat) : Int) ↔ (j : Int) < (j' : Int) := by lia
  have e6 : ((128 * j : Nat) : Int) = ((128 * j' : Nat) : Int) ↔ (j : Int) = (j' : Int) := by lia
  rw [e1, e2, e3, e4, e5, e6]

theorem dd_eq {a b : Nat} (ha : a ≤ 1024) (hb : b ≤ 1024) (h : ((dd a).toNat : Int) = ((dd b).toNat : Int)) : a = b := dd_inj ha hb (by lia)
theorem hsvD_inj {t k j t' k' j' : Nat} (p : Pk (t, k, j)) (q : Pk (t', k', j')) (h : hsvD t k j = hsvD t' k' j') : t = t' ∧ k = k' ∧ j = j' := by
  have := p.t; have := p.k; have := p.j; have := q.t; have := q.k; have := q.j
  simp only at *
  unfold hsvD at h
  rw [f_hue64 p.t, f_hue64 q.t, f_four p.k.2, f_four p.j.2, f_four q.k.2, f_four q.j.2] at h
  simp only [List.cons.injEq, and_true] at h
  have h1 := dd_eq (by lia) (by lia) h.1
  have h2 := dd_eq (by lia) (by lia) h.2.1
  have h3 := dd_eq (by lia) (by lia) h.2.2
  lia
theorem toNat_inj {x y : UInt64} (h : (x.toNat : Int) = (y.toNat : Int)) : x = y := UInt64.toNat_inj.mp (by lia)
theorem colD_inj {t k j t' k' j' : Nat} (p : Pk (t, k, j)) (q : Pk (t', k', j')) (h : colD t k j = colD t' k' j') : t = t' ∧ k = k' ∧ j = j' := by
  unfold colD at h
  simp only [List.cons.injEq, and_true] at h
  have e1 := toNat_inj h.1
  have e2 := toNat_inj h.2.1
  have e3 := toNat_inj h.2.2
  refine hsvD_inj p q ?_
  unfold hsvD
  rw [← hue_of p.t p.j p.k, ← hue_of q.t q.j q.k, ← sat_of p.t p.j p.k, ← sat_of q.t q.j q.k, ← max_of p.t p.j p.k, ← max_of q.t q.j q.k, e1, e2, e3]
theorem hls_inj_ : all2 (fun j k => all2 fun j' k' => !(Float64.ofFrac false (j * (8 - k)) 32 == Float64.ofFrac false (j' * (8 - k')) 32) ||
  !(Float64.ofFrac false (k * j) (if j * (8 - k) ≤ 16 then j * (8 - k) else 32 - j * (8 - k)) == Float64.ofFrac false (k' * j') (if j' * (8 - k') ≤ 16 then j' * (8 - k') else 32 - j' * (8 - k'))) || (j == j' && k == k')) = true := by decide +kernel
theorem hlsD_inj {t k j t' k' j' : Nat} (p : Pk (t, k, j)) (q : Pk (t', k', j')) (h : hlsD t k j = hlsD t' k' j') : t = t' ∧ k = k' ∧ j = j' := by
  unfold hlsD at h
  simp only [List.cons.injEq, and_true] at h
  have e1 := toNat_inj h.1
  have e2 := toNat_inj h.2.1
  have e3 := toNat_inj h.2.2
  rw [f_hue64 p.t, f_hue64 q.t] at e1
  have := p.t; have := q.t
  simp only at *
  have h1 := dd_inj (a := 8 * t) (b := 8 * t') (by lia) (by lia) (by rw [e1])
  have h2 := all2_at (all2_at hls_inj_ p.j p.k) q.j q.k
  rw [e2, e3] at h2
  simp at h2
  lia
end

-- C1
section

def NT (G : Ctx) (l : List Addr) : Prop := ∀ a ∈ l, ∃ o, (a, o) ∈ G.1 ∧ ∀ xs, o ≠ tupO xs
def At (G : Ctx) (l : List Addr) : Prop := ∀ a ∈ l, ∃ o, (a, o) ∈ G.1
def outO (l : List Addr) (add : Led) (G : Ctx) : Ctx := (add ++ G.1.filter (fun p => decide (p.1 ∉ l)), G.2)
theorem outO_gr {l : List Addr} {add : Led} {G : Ctx} : GrB l G (outO l add G) := ⟨fun p hp hn => List.mem_append.mpr (.inr (List.mem_filter.mpr ⟨hp, decide_eq_true hn⟩)), fun _ h => h⟩
theorem outO_gr0 {add : Led} {G : Ctx} : Gr G (outO [] add G) := ⟨fun p hp => outO_gr.a p hp (by simp), fun _ h => h⟩
theorem outO_add {l : List Addr} {add : Led} {G : Ctx} {p : Addr × Obj} (h : p ∈ add) : p ∈ (outO l add G).1 := List.mem_append.mpr (.inl h)

section
variable {h₀ : Heap} {L : Addr} {s₀ s : Shared} {m : NMap} {G G' : Ctx}
theorem St.upd (S : St h₀ L s₀ m G s) (l : List Addr) (add : Led) {h' : Heap} {tk : Nat} (hl : At G l) (hk : ∀ b o, b ∉ l → s.heap.get? b = some o → h'.get? b = some o)
    (ha : ∀ p ∈ add, h'.get? p.1 = some p.2 ∧ (p.1 ∈ l ∨ s.heap.get? p.1 = none)) (ht : s.toks ≤ tk) : St h₀ L s₀ m (outO l add G) { s with heap := h', toks := tk } := by
  have hL : L ∉ l := fun h => by obtain ⟨o, h1⟩ := hl _ h; exact S.neL h1 rfl
  have h0 : ∀ b o, h₀.get? b = some o → b ∉ l := fun b o e h => by obtain ⟨o', h1⟩ := hl _ h; rw [S.new h1] at e; cases e
  have hLs : ∃ o, s.heap.get? L = some o := let ⟨o, _, _, h, _⟩ := S.F.ns; ⟨o, h⟩
  refine S.both (G' := outO l add G) ⟨?_, fun b o e => hk b o (h0 b o e) (S.F.keep b o e), S.F.above⟩ (fun p hp => ?_) rfl ht
  · obtain ⟨o, es, ep, h1, r⟩ := S.F.ns
    exact ⟨o, es, ep, hk _ _ hL h1, r⟩
  · rcases List.mem_append.mp hp with hp | hp
    · obtain ⟨h1, h2⟩ := ha p hp
      rcases h2 with h2 | h2
      · obtain ⟨o, h3⟩ := hl _ h2
        exact ⟨h1, S.neL h3, S.new h3⟩
      · refine ⟨h1, fun e => ?_, ?_⟩
        · obtain ⟨o, h3⟩ := hLs; rw [e, h3] at h2; cases h2
        · cases q : h₀.get? p.1 with
          | none => rfl
          | some o => rw [S.F.keep _ _ q] at h2; cases h2
    · obtain ⟨h1, h2⟩ := List.mem_filter.mp hp
      exact ⟨hk _ _ (of_decide_eq_true h2) (S.N p h1).1, (S.N p h1).2⟩
theorem St.upd1 (S : St h₀ L s₀ m G s) {a : Addr} {o o' : Obj} {h' : Heap} (hm : (a, o) ∈ G.1) (hs : Heap.SameBut a s.heap h') (ho : h'.get? a = some o') : St h₀ L s₀ m (outO [a] [(a, o')] G) { s with heap := h' } :=
  S.upd [a] [(a, o')] (tk := s.toks) (fun b hb => by rw [List.mem_singleton.mp hb]; exact ⟨o, hm⟩) (fun b x hb e => (hs.2 b (by simpa using hb)).trans e) (fun p hp => by rw [List.mem_singleton.mp hp]; exact ⟨ho, .inl (by simp)⟩) (Nat.le_refl _)
theorem St.new1 (S : St h₀ L s₀ m G s) {o : Obj} {tk : Nat} (hf : o.isFreed = false) (ht : s.toks ≤ tk) : St h₀ L s₀ m ((s.heap.objs.size, o) :: G.1, G.2) { s with heap := s.heap.push o, toks := tk } :=
  S.both (S.F.push _) (S.N.push S.F o hf) (Eq.refl _) ht
theorem TV.keepB {fl : Bool} {l : List Addr} (S : St h₀ L s₀ m G s) (hl : NT G l) (g : GrB l G G') {v : Value} {d : List Int} (h : TV fl G v d) : TV fl G' v d := by
  obtain ⟨a, xs, h1, h2, h3⟩ := h
  refine ⟨a, xs, h1, g.a _ h2 fun hm => ?_, h3.mono fun _ _ => NV.mono g.b⟩
  obtain ⟨o, hv, ho⟩ := hl _ hm
  exact ho xs (S.fn hv h2)
theorem NT.nil : NT G [] := fun _ h => by simp at h
theorem NT.cons {a : Addr} {l : List Addr} {o : Obj} (h : (a, o) ∈ G.1) (ho : ∀ xs, o ≠ tupO xs) (k : NT G l) : NT G (a :: l) := fun b hb => by
  rcases List.mem_cons.mp hb with rfl | hb
  · exact ⟨o, h, ho⟩
  · exact k b hb
theorem GrB.sub {l l' : List Addr} (g : GrB l G G') (h : ∀ a ∈ l, a ∈ l') : GrB l' G G' := ⟨fun p hp hn => g.a p hp fun hm => hn (h _ hm), g.b⟩
def LI (G : Ctx) (I l : Addr) (i : Nat) : Prop := ∃ o, (I, o) ∈ G.1 ∧ o.cls = .type "list_iterator" ∧ o.data = .fields #[.ref l, .int i 0]
abbrev rngO (x left step : Int) : Obj := { cls := .type "range_iterator", dict := none, data := .fields #[rawInt x, rawInt left, rawInt step], slots := #[] }
abbrev enmO (it : Addr) (i : Int) (old : Value) : Obj := { cls := .type "enumerate", dict := none, data := .fields #[.none, .bool false, .ref it, rawInt i, .none, old], slots := #[] }
theorem LI.keep {l : List Addr} {I a : Addr} {i : Nat} (h : LI G I a i) (g : GrB l G G') (hn : I ∉ l) : LI G' I a i := let ⟨o, h1, h2⟩ := h; ⟨o, g.a _ h1 hn, h2⟩
theorem LI.nt {I a : Addr} {i : Nat} (h : LI G I a i) : ∃ o, (I, o) ∈ G.1 ∧ ∀ xs, o ≠ tupO xs := let ⟨o, h1, _, h3⟩ := h; ⟨o, h1, fun xs e => by rw [e] at h3; cases h3⟩
theorem lst_nt {vs : List Value} {n : Nat} : ∀ xs, lstO vs n ≠ tupO xs := fun xs h => tup_ne_lst h.symm
theorem rng_nt {x l t : Int} : ∀ xs, rngO x l t ≠ tupO xs := fun xs h => by have := congrArg Obj.data h; cases this
theorem enm_nt {I : Addr} {i : Int} {old : Value} : ∀ xs, enmO I i old ≠ tupO xs := fun xs h => by have := congrArg Obj.data h; cases this
theorem LI.at {I a : Addr} {i : Nat} (h : LI G I a i) (S : St h₀ L s₀ m G s) : s.heap.IsListIter I a i := let ⟨o, h1, h2⟩ := h; ⟨o, S.get h1, h2⟩
theorem fresh_of (S : St h₀ L s₀ m G s) {a : Addr} (ha : s.heap.get? a = none) : ∀ p ∈ G.1, p.1 ≠ a := fun p hp e => by rw [← e, (S.N p hp).1] at ha; cases ha
theorem none_size {h : Heap} {a : Addr} (ha : h.objs.size ≤ a) : h.get? a = none := by
  cases e : h.get? a with
  | none => exact Eq.refl _
  | some o => exact absurd (Heap.lt_size e) (Nat.not_lt.mpr ha)
end

section
variable {prog : Program} {w : World} {A : Around} {E : Value → Shared → Prop} {h₀ : Heap} {L : Addr} {s₀ s : Shared} {m : NMap} {G : Ctx}
theorem it_list {l : Addr} {vs : List Value} {n : Nat} {Q : Value → Shared → Prop} (S : St h₀ L s₀ m G s) (hl : (l, lstO vs n) ∈ G.1)
    (h : ∀ I G' s', St h₀ L s₀ m G' s' → Gr G G' → LI G' I l 0 → (∀ p ∈ G.1, p.1 ≠ I) → Q (.ref I) s') : wpAny (model prog w) A (pyIter (.ref l)) Q E s := by
  refine wpAny_pyIter_list (S.isList hl) ?_
  refine h _ (outO [] [(s.heap.objs.size, { cls := .type "list_iterator", data := .fields #[.ref l, .int 0 0] })] G) _ (S.upd [] _ (tk := s.toks) (fun _ h => by simp at h) (fun b o _ e => Heap.get?_push_of_some _ e) (fun p hp => ?_) (Nat.le_refl _)) outO_gr0
    ⟨_, outO_add (.head _), rfl, rfl⟩ (fresh_of S (none_size (Nat.le_refl _)))
  rw [List.mem_singleton.mp hp]
  exact ⟨Heap.get?_push_size _ rfl, .inr (none_size (Nat.le_refl _))⟩
theorem nx_list {I l : Addr} {i n : Nat} {vs : List Value} {v : Value} {Q : Option Value → Shared → Prop} (S : St h₀ L s₀ m G s) (hi : LI G I l i) (hl : (l, lstO vs n) ∈ G.1) (hv : vs[i]? = some v)
    (h : ∀ G' s', St h₀ L s₀ m G' s' → GrB [I] G G' → LI G' I l (i + 1) → Q (some v) s') : wpAny (model prog w) A (pyNext (.ref I)) Q E s := by
  refine wpAny_pyNext_list_item (hi.at S) (S.isList hl) (by simpa using hv) fun h' hit hs => ?_
  obtain ⟨o, ho, r⟩ := hit
  obtain ⟨o', ho', _⟩ := hi
  exact h _ _ (S.upd1 ho' hs ho) outO_gr ⟨o, outO_add (.head _), r⟩
theorem nx_list_end {I l : Addr} {i n : Nat} {vs : List Value} {Q : Option Value → Shared → Prop} (hh : A.handled = none) (S : St h₀ L s₀ m G s) (hi : LI G I l i) (hl : (l, lstO vs n) ∈ G.1) (hv : vs[i]? = none)
    (h : ∀ G' s', St h₀ L s₀ m G' s' → GrB [I] G G' → Q none s') : wpAny (model prog w) A (pyNext (.ref I)) Q E s := by
  refine wpAny_pyNext_list_end hh (hi.at S) (S.isList hl) (by simpa using hv) fun h' hs => ?_
  obtain ⟨o', ho', _⟩ := hi
  exact h (outO [I] [] G) _ (S.upd [I] [] (tk := s.toks) (fun b hb => by rw [List.mem_singleton.mp hb]; exact ⟨_, ho'⟩) (fun b o hb e => hs b o (by simpa using hb) e) (fun p hp => by simp at hp) (Nat.le_refl _)) outO_gr
theorem it_rng {r : Addr} {a b c : Int} {t u v : Tok} {Q : Value → Shared → Prop} (S : St h₀ L s₀ m G s) (hr : (r, ({ cls := .type "range", dict := none, data := .fields #[.int a t, .int b u, .int c v], slots := #[] } : Obj)) ∈ G.1)
    (hsm : Builtin.Range.small a b c = true)
    (h : ∀ I G' s', St h₀ L s₀ m G' s' → Gr G G' → (I, rngO a (Builtin.Range.rangeSize a b c) c) ∈ G'.1 → (∀ p ∈ G.1, p.1 ≠ I) → Q (.ref I) s') : wpAny (model prog w) A (pyIter (.ref r)) Q E s := by
  refine wpAny_pyIter_range (S.get hr) hsm ?_
  refine h _ (outO [] [(s.heap.objs.size, rngO a (Builtin.Range.rangeSize a b c) c)] G) _ (S.upd [] _ (tk := s.toks) (fun _ h => by simp at h) (fun b o _ e => Heap.get?_push_of_some _ e) (fun p hp => ?_) (Nat.le_refl _)) outO_gr0 (outO_add (.head _)) (fresh_of S (none_size (Nat.le_refl _)))
  rw [List.mem_singleton.mp hp]
  exact ⟨Heap.get?_push_size _ rfl, .inr (none_size (Nat.le_refl _))⟩
theorem nx_rng {I : Addr} {x left step : Int} {Q : Option Value → Shared → Prop} (S : St h₀ L s₀ m G s) (hi : (I, rngO x left step) ∈ G.1) (hl : 0 < left)
    (h : ∀ t G' s', St h₀ L s₀ m G' s' → GrB [I] G G' → (I, rngO (x + step) (left - 1) step) ∈ G'.1 → Q (some (.int x t)) s') : wpAny (model prog w) A (pyNext (.ref I)) Q E s := by
  refine wpAny_pyNext_range_item (S.get hi) hl fun h' hit hs => ?_
  exact h _ _ _ ((S.upd1 hi hs hit).toks (Nat.le_succ _)) outO_gr (outO_add (.head _))
theorem nx_rng_end {I : Addr} {x left step : Int} {Q : Option Value → Shared → Prop} (hh : A.handled = none) (S : St h₀ L s₀ m G s) (hi : (I, rngO x left step) ∈ G.1) (hl : left ≤ 0)
    (h : ∀ G' s', St h₀ L s₀ m G' s' → GrB [I] G G' → Q none s') : wpAny (model prog w) A (pyNext (.ref I)) Q E s := by
  refine wpAny_pyNext_range_end hh (S.get hi) hl fun h' hs => ?_
  exact h (outO [I] [] G) _ (S.upd [I] [] (tk := s.toks) (fun b hb => by rw [List.mem_singleton.mp hb]; exact ⟨_, hi⟩) (fun b o hb e => hs b o (by simpa using hb) e) (fun p hp => by simp at hp) (Nat.le_refl _)) outO_gr
theorem c_rng1 {Ld : Led} {Tk : Tks} {b : Int} {u : Tok} {Q : Value → Shared → Prop} (S : St h₀ L s₀ m (Ld, Tk) s)
    (h : ∀ r t u v s', St h₀ L s₀ m ((r, ({ cls := .type "range", dict := none, data := .fields #[.int 0 t, .int b u, .int 1 v], slots := #[] } : Obj)) :: Ld, Tk) s' → Q (.ref r) s') : wpAny (model prog w) A (call (.type "range") [.int b u]) Q E s := by
  refine call_range_1 ?_
  exact h _ _ _ _ _ (S.new1 rfl (by lia))
theorem c_rng2 {Ld : Led} {Tk : Tks} {a b : Int} {t u : Tok} {Q : Value → Shared → Prop} (S : St h₀ L s₀ m (Ld, Tk) s)
    (h : ∀ r t u v s', St h₀ L s₀ m ((r, ({ cls := .type "range", dict := none, data := .fields #[.int a t, .int b u, .int 1 v], slots := #[] } : Obj)) :: Ld, Tk) s' → Q (.ref r) s') : wpAny (model prog w) A (call (.type "range") [.int a t, .int b u]) Q E s := by
  refine call_range_2 ?_
  exact h _ _ _ _ _ (S.new1 rfl (by lia))
theorem c_rng3 {Ld : Led} {Tk : Tks} {a b c : Int} {t u v : Tok} {Q : Value → Shared → Prop} (S : St h₀ L s₀ m (Ld, Tk) s) (hc : c ≠ 0 ∧ -(2 ^ 30) < c ∧ c < 2 ^ 30)
    (h : ∀ r t u v s', St h₀ L s₀ m ((r, ({ cls := .type "range", dict := none, data := .fields #[.int a t, .int b u, .int c v], slots := #[] } : Obj)) :: Ld, Tk) s' → Q (.ref r) s') : wpAny (model prog w) A (call (.type "range") [.int a t, .int b u, .int c v]) Q E s := by
  refine call_range_3 hc.1 ?_ (.inl (PyProof.noPylong_small (by lia)))
  exact h _ _ _ _ _ (S.new1 rfl (by lia))
theorem c_enm {l : Addr} {vs : List Value} {n : Nat} {Q : Value → Shared → Prop} (S : St h₀ L s₀ m G s) (hl : (l, lstO vs n) ∈ G.1)
    (h : ∀ e I G' s', St h₀ L s₀ m G' s' → Gr G G' → LI G' I l 0 → (e, enmO I 0 .none) ∈ G'.1 → e ≠ I → (∀ p ∈ G.1, p.1 ≠ I ∧ p.1 ≠ e) → Q (.ref e) s') : wpAny (model prog w) A (call (.type "enumerate") [.ref l]) Q E s := by
  refine call_enumerate_list (S.isList hl) fun h' he hi hz hk => ?_
  obtain ⟨o, ho, r⟩ := hi
  refine h _ s.heap.objs.size (outO [] [(s.heap.objs.size, o), (s.heap.objs.size + 1, enmO s.heap.objs.size 0 .none)] G) _ (S.upd [] _ (tk := s.toks) (fun _ h => by simp at h) (fun b o _ e => hk b o e) (fun p hp => ?_) (Nat.le_refl _)) outO_gr0
    ⟨o, outO_add (.head _), r⟩ (outO_add (.tail _ (.head _))) (Nat.succ_ne_self _) fun p hp => ⟨fresh_of S (none_size (Nat.le_refl _)) p hp, fresh_of S (none_size (Nat.le_succ _)) p hp⟩
  rcases List.mem_cons.mp hp with rfl | hp
  · exact ⟨ho, .inr (none_size (Nat.le_refl _))⟩
  · rw [List.mem_singleton.mp hp]; exact ⟨he, .inr (none_size (Nat.le_succ _))⟩
theorem it_enm {e I : Addr} {i : Int} {old : Value} {Q : Value → Shared → Prop} (S : St h₀ L s₀ m G s) (he : (e, enmO I i old) ∈ G.1) (h : Q (.ref e) s) : wpAny (model prog w) A (pyIter (.ref e)) Q E s :=
  wpAny_pyIter_enum (S.get he) h
theorem nx_enm {e I l : Addr} {i n : Nat} {vs : List Value} {v old : Value} {elts : List Expr} {x1} {pos : Pos} {Q : Value → Shared → Prop} (S : St h₀ L s₀ m G s) (he : (e, enmO I (i : Int) old) ∈ G.1) (hi : LI G I l i) (hne : e ≠ I) (hl : (l, lstO vs n) ∈ G.1) (hv : vs[i]? = some v)
    (h : ∀ a t G' s', St h₀ L s₀ m G' s' → GrB [e, I] G G' → LI G' I l (i + 1) → (e, enmO I ((i + 1 : Nat) : Int) v) ∈ G'.1 → (a, tupO [.int i t, v]) ∈ G'.1 → Q (.ref a) s') :
    wpAny (model prog w) A (pyNext (.ref e)) (fun r s₁ => match r with | none => False | some x => wpAny (model prog w) A (letOwnedTupleGo (.Tuple elts x1 pos) (.ref e) x) (fun _ s₂ => Q x s₂) E s₁) E s := by
  refine wpAny_pyNext_enum_item (S.get he) (hi.at S) (S.isList hl) (by simpa using hv) hne fun h' heo hit ht hz hk => ?_
  refine wpAny_letOwnedTupleGo_enum heo fun h₂ he₂ hs₂ => ?_
  obtain ⟨o, ho, r⟩ := hit
  obtain ⟨o', ho', _⟩ := hi
  have hel : e < s.heap.objs.size := Heap.lt_size (S.get he)
  refine h _ _ (outO [e, I] [(I, o), (e, enmO I ((i + 1 : Nat) : Int) v), (s.heap.objs.size, tupO [.int i s.toks, v])] G) _ (S.upd [e, I] _ (tk := s.toks + 1) (fun b hb => ?_) (fun b x hb q => ?_) (fun p hp => ?_) (Nat.le_succ _)) outO_gr ⟨o, outO_add (.head _), r⟩ (outO_add (.tail _ (.head _))) (outO_add (.tail _ (.tail _ (.head _))))
  · rcases List.mem_cons.mp hb with rfl | hb
    · exact ⟨_, he⟩
    · rw [List.mem_singleton.mp hb]; exact ⟨_, ho'⟩
  · have hbe : b ≠ e := fun c => hb (by rw [c]; simp)
    have hbi : b ≠ I := fun c => hb (by rw [c]; simp)
    exact (hs₂.2 b hbe).trans (hk b x hbe hbi q)
  · rcases List.mem_cons.mp hp with rfl | hp
    · exact ⟨(hs₂.2 I (Ne.symm hne)).trans ho, .inl (by simp)⟩
    · rcases List.mem_cons.mp hp with rfl | hp
      · refine ⟨?_, .inl (by simp)⟩
        have : ((i + 1 : Nat) : Int) = (i : Int) + 1 := by lia
        rw [this]; exact he₂
      · rw [List.mem_singleton.mp hp]
        exact ⟨(hs₂.2 _ (Nat.ne_of_gt hel)).trans ht, .inr (none_size (Nat.le_refl _))⟩
theorem nx_enm_end {e I l : Addr} {i n : Nat} {vs : List Value} {old : Value} {Q : Option Value → Shared → Prop} (hh : A.handled = none) (S : St h₀ L s₀ m G s) (he : (e, enmO I (i : Int) old) ∈ G.1) (hi : LI G I l i) (hl : (l, lstO vs n) ∈ G.1) (hv : vs[i]? = none)
    (h : ∀ G' s', St h₀ L s₀ m G' s' → GrB [e, I] G G' → Q none s') : wpAny (model prog w) A (pyNext (.ref e)) Q E s := by
  refine wpAny_pyNext_enum_end hh (S.get he) (hi.at S) (S.isList hl) (by simpa using hv) fun h' hs => ?_
  obtain ⟨o', ho', _⟩ := hi
  exact h (outO [I] [] G) _ (S.upd [I] [] (tk := s.toks) (fun b hb => by rw [List.mem_singleton.mp hb]; exact ⟨_, ho'⟩) (fun b o hb e => hs b o (by simpa using hb) e) (fun p hp => by simp at hp) (Nat.le_refl _)) (outO_gr.sub fun a ha => by rw [List.mem_singleton.mp ha]; simp)
theorem lg_list {I l : Addr} {i : Nat} {target : Expr} {v : Value} {Q : Unit → Shared → Prop} (S : St h₀ L s₀ m G s) (hi : LI G I l i) (h : Q () s) : wpAny (model prog w) A (letOwnedTupleGo target (.ref I) v) Q E s := by
  obtain ⟨o, h1, h2, h3⟩ := hi
  unfold letOwnedTupleGo
  split
  all_goals first
    | exact wpAny_pure h
    | skip
  all_goals (split
             · rename_i e
               cases e
               refine wpAny_bind (wpAny_load (S.get h1) ?_)
               rw [h2, h3]
               exact wpAny_pure h
             · exact wpAny_pure h)
theorem l_app {D : Addr} {xs : List Value} {n : Nat} {x : Value} {Q : Value → Shared → Prop} (S : St h₀ L s₀ m G s) (hm : (D, lstO xs n) ∈ G.1) (hsz : xs.length ≤ 1000)
    (h : ∀ G' s', St h₀ L s₀ m G' s' → GrB [D] G G' → (D, lstO (xs ++ [x]) (n + 1)) ∈ G'.1 → Q .none s') : wpAny (model prog w) A (call (.builtin "list.append") [.ref D, x]) Q E s := by
  refine append_at (S.get hm) (fun h' hs ho => ?_) (by rw [List.size_toArray]; exact Nat.le_trans hsz (by rw [sizeLine_eq]; decide))
  have ho' : h'.get? D = some (lstO (xs ++ [x]) (n + 1)) := by rw [ho]; simp
  exact h _ _ (S.upd1 hm hs ho') outO_gr (outO_add (.head _))
end
end

-- C2
section

def IsNs (o : Obj) (m : NMap) : Prop := ∃ es ep, o.data = .dict es ep ∧ StrKeys es ∧ ∀ name, nsFind es name = m name
theorem IsNs.nt {o : Obj} {m : NMap} (h : IsNs o m) : ∀ xs, o ≠ tupO xs := fun xs e => by
  obtain ⟨_, _, h1, _⟩ := h
  rw [e] at h1; cases h1
theorem IsNs.at {h : Heap} {o : Obj} {m : NMap} {a : Addr} (x : IsNs o m) (e : h.get? a = some o) : h.Ns a m := let ⟨es, ep, r⟩ := x; ⟨o, es, ep, e, r⟩

section
variable {M : Model} {A : Around} {E : Value → Shared → Prop} {h₀ : Heap} {L : Addr} {s₀ s : Shared} {m : NMap} {G : Ctx}
theorem stC {sc : Scope} {cl : List (Str × Addr)} {env : Env} {C : Addr} {oC : Obj} {mc : NMap} {x : Str} {v : Value} {Q : Unit → Shared → Prop} (S : St h₀ L s₀ m G s) (hm : (C, oC) ∈ G.1) (hn : IsNs oC mc)
    (h : ∀ oC' G' s', St h₀ L s₀ m G' s' → GrB [C] G G' → (C, oC') ∈ G'.1 → IsNs oC' (fun y => if y = x then some v else mc y) → Q () s')
    (hk : sc.kind = .function := by rfl) (hl : (compEnvC sc cl C env).kindOf x = some .local := by rfl) :
    wpAny M A (storeName (compEnvC sc cl C env) x v) Q E s := by
  refine wpAny_storeName_local hl (hn.at (S.get hm)) (fun h' hn' hs => ?_) (by show (sc.kind == .class || (sc.kind == .module && C != env.globals)) = false; rw [hk]; rfl)
  obtain ⟨o, es, ep, ho, r⟩ := hn'
  exact h o _ _ ((S.upd1 hm hs ho).toks (Nat.le_succ _)) outO_gr (outO_add (.head _)) ⟨es, ep, r⟩
theorem nmO' {sc : Scope} {cl : List (Str × Addr)} {env : Env} {x : Str} {pos : Pos} {C : Addr} {oC : Obj} {mc : NMap} {v : Value} {Q : Value → Shared → Prop} (S : St h₀ L s₀ m G s) (hm : (C, oC) ∈ G.1) (hn : IsNs oC mc) (hv : mc x = some v) (h : Q v s)
    (hk : sc.kind = .function := by rfl) (hx : (compEnvC sc cl C env).kindOf x = some .local := by rfl) (hb : (x == ("__debug__" : Str)) = false := by decide) :
    wpAny M A (eval (.Name x pos) (compEnvC sc cl C env)) Q E s :=
  nmO (hn.at (S.get hm)) hv h (by show sc.kind = _; exact hk) hx hb
end

section
variable {prog : Program} {w : World} {A : Around} {E : Value → Shared → Prop} {R : Result → Shared → Prop} {h₀ : Heap} {L : Addr} {s₀ s : Shared} {m : NMap} {G : Ctx}
abbrev tests (ifs : List Expr) (env : Env) : Sem Bool := forIn ifs true fun c r => if r = true then do let ok ← isTrue c env (eval c env); pure (ForInStep.yield ok) else pure (ForInStep.yield r)
abbrev noE : Value → Shared → Prop := fun _ _ => False
theorem wpAny_of_noE {α : Type} {M : Model} {t : Sem α} {Q : α → Shared → Prop} {s : Shared} (h : wpAny M A t Q noE s) : wpAny M A t Q E s := wpAny_mono h (fun _ _ x => x) fun _ _ x => x.elim

theorem compLoop_full {elt target iter : Expr} {ifs : List Expr} {scope : Scope} {pos : Pos} {it acc : Value} {env : Env} (I : Nat → Shared → Prop)
    (turn : ∀ n s, I n s → wpAny (model prog w) A (pyNext it) (fun r s₁ => match r with
      | none => R (.ok .next) s₁
      | some v => wpAny (model prog w) A (letOwnedTupleGo target it v) (fun _ s₁ => wpAny (model prog w) A (assign target env v) (fun _ s₂ =>
          wpAny (model prog w) A (tests ifs env) (fun ok s₃ =>
            if ok = true then wpAny (model prog w) A (eval elt env) (fun x s₄ =>
              wpAny (model prog w) A (call (.builtin "list.append") [acc, x]) (fun _ s₅ => ∃ m, m < n ∧ I m s₅) noE s₄) noE s₃
            else ∃ m, m < n ∧ I m s₃) noE s₂) noE s₁) noE s₁) noE s)
    (n : Nat) (h : I n s) :
    codeAny (model prog w) A (.compLoop (.ListComp elt [⟨target, iter, ifs, 0⟩] scope pos) 0 it acc env) R s := by
  refine codeAny_loop rfl I (fun n s hI => ?_) n h
  show wpAny _ A ((compTurn (.ListComp elt [⟨target, iter, ifs, 0⟩] scope pos) 0 it acc env).onRaise (fun x => do noteFrame x env; theTreesLotGoes x)) _ _ s
  refine wpAny_noted ?_
  rw [compTurn_list]
  refine wpAny_of_noE (wpAny_bind (wpAny_standAt (wpAny_bind (wpAny_mono (turn n s hI) (fun r s₁ h₁ => ?_) fun _ _ h' => h'))))
  cases r with
  | none => exact wpAny_pure h₁
  | some v =>
    refine wpAny_bind (wpAny_mono h₁ (fun _ s₁ h₁ => ?_) fun _ _ h' => h')
    refine wpAny_bind (wpAny_mono h₁ (fun _ s₂ h₂ => wpAny_bind (wpAny_mono h₂ (fun ok s₃ h₃ => ?_) fun _ _ h' => h')) fun _ _ h' => h')
    cases ok with
    | false => exact wpAny_pure ⟨rfl, h₃⟩
    | true =>
      exact wpAny_bind (wpAny_bind (wpAny_mono h₃ (fun x s₄ h₄ => wpAny_bind (wpAny_mono h₄ (fun _ s₅ h₅ => wpAny_pure (wpAny_pure ⟨rfl, h₅⟩)) fun _ _ h' => h')) fun _ _ h' => h'))

theorem comp_block {env : Env} {elt target iter : Expr} {ifs : List Expr} {scope : Scope} {pos : Pos} {cl : List (Str × Addr)} {it : Value} {RR : Value → Addr → Result → Shared → Prop}
    (S : St h₀ L s₀ m G s) (N : Nat) (fp : List Addr) (P : Nat → Ctx → Prop) (Keep : Nat → Bool) (Elt : Nat → Ctx → Value → Prop)
    (hN : N ≤ 1000) (hfp : ∀ i G₁, P i G₁ → NT G₁ fp) (h0 : P 0 G) (hP : ∀ X i G₁ G', (∀ p ∈ G.1, p.1 ∉ X) → GrB X G₁ G' → P i G₁ → P i G')
    (hE : ∀ i X G₁ G' s₁ y, St h₀ L s₀ m G₁ s₁ → NT G₁ X → GrB X G₁ G' → Elt i G₁ y → Elt i G' y)
    (hself : ∀ (Q : Value → Shared → Prop) G₁ s₁, St h₀ L s₀ m G₁ s₁ → P 0 G₁ → Q it s₁ → wpAny (model prog w) A (pyIter it) Q noE s₁)
    (turn : ∀ i C G₁ s₁ oC mc, i < N → St h₀ L s₀ m G₁ s₁ → GrB fp G G₁ → P i G₁ → (C, oC) ∈ G₁.1 → IsNs oC mc → (∀ p ∈ G.1, p.1 ≠ C) →
      wpAny (model prog w) A (pyNext it) (fun r s₁ => match r with
        | none => False
        | some v => wpAny (model prog w) A (letOwnedTupleGo target it v) (fun _ s₁ => wpAny (model prog w) A (assign target (compEnvC scope cl C env) v) (fun _ s₂ =>
          wpAny (model prog w) A (tests ifs (compEnvC scope cl C env)) (fun ok s₃ => ok = Keep i ∧
            if ok = true then wpAny (model prog w) A (eval elt (compEnvC scope cl C env)) (fun y s' => ∃ G' oC' mc', St h₀ L s₀ m G' s' ∧ GrB (C :: fp) G₁ G' ∧ P (i + 1) G' ∧ (C, oC') ∈ G'.1 ∧ IsNs oC' mc' ∧ Elt i G' y) noE s₃
            else ∃ G' oC' mc', St h₀ L s₀ m G' s₃ ∧ GrB (C :: fp) G₁ G' ∧ P (i + 1) G' ∧ (C, oC') ∈ G'.1 ∧ IsNs oC' mc') noE s₂) noE s₁) noE s₁) noE s₁)
    (last : ∀ G₁ s₁, St h₀ L s₀ m G₁ s₁ → GrB fp G G₁ → P N G₁ → wpAny (model prog w) A (pyNext it) (fun r s' => r = none ∧ ∃ G', St h₀ L s₀ m G' s' ∧ GrB fp G₁ G') noE s₁)
    (hcell : ∀ y ∈ scope.names, y.2 ≠ .cell) (hkind : scope.kind = .function)
    (hR : ∀ D C ys n oC mc G' s', St h₀ L s₀ m G' s' → GrB fp G G' → (C, oC) ∈ G'.1 → IsNs oC mc → (D, lstO ys n) ∈ G'.1 → (∀ p ∈ G.1, p.1 ≠ D ∧ p.1 ≠ C) → D ≠ C → C ∉ fp → D ∉ fp →
      All2 (fun y i => Elt i G' y) ys ((List.range N).filter Keep) → RR (.ref D) C (.ok .next) s') :
    wpAny (model prog w) A (newList []) (fun acc s₃ => wpAny (model prog w) A (newFunctionEnv scope env.globals cl [] env.qual none .none (some env)) (fun cenv s₄ =>
      codeAny (model prog w) A (.compStart (.ListComp elt [⟨target, iter, ifs, 0⟩] scope pos) 0 it acc { cenv with scope := relabel scope env }) (RR acc cenv.locals) s₄) E s₃) E s := by
  obtain ⟨Ld, Tk⟩ := G
  refine dLst S (fun D s₁ S₁ hD => ?_) (by decide)
  refine wpAny_newFunctionEnv hcell (by intro y hy; simp at hy) (fun h₁ hns hsb => ?_) hkind
  have hC0 : s₁.heap.get? s₁.heap.objs.size = none := none_size (Nat.le_refl _)
  obtain ⟨oC, es, ep, hoC, hnC⟩ := hns
  generalize hCC : s₁.heap.objs.size = C at hoC hsb hC0
  have S₂ := S₁.upd [] [(C, oC)] (h' := h₁) (tk := s₁.toks + ([] : List (Str × Value)).length) (fun _ h => by simp at h) (fun b o _ e => (hsb.2 b (by rintro rfl; rw [hC0] at e; cases e)).trans (Heap.get?_push_of_some _ e))
    (fun p hp => by rw [List.mem_singleton.mp hp]; exact ⟨hoC, .inr hC0⟩) (Nat.le_add_right _ _)
  have fC : ∀ p ∈ (((D, lstO [] 0) :: Ld, Tk) : Ctx).1, p.1 ≠ C := fresh_of S₁ hC0
  have hDC : D ≠ C := fC _ (.head _)
  have fr : ∀ p ∈ ((Ld, Tk) : Ctx).1, p.1 ≠ D ∧ p.1 ≠ C := fun p hp => ⟨hD p hp, fC p (.tail _ hp)⟩
  have hfp0 := hfp _ _ h0
  have hCf : C ∉ fp := fun hm => by obtain ⟨o, h, _⟩ := hfp0 _ hm; exact (fr _ h).2 rfl
  have hDf : D ∉ fp := fun hm => by obtain ⟨o, h, _⟩ := hfp0 _ hm; exact (fr _ h).1 rfl
  have g2 : Gr ((Ld, Tk) : Ctx) (outO [] [(C, oC)] ((D, lstO [] 0) :: Ld, Tk)) := Gr.obj.trans outO_gr0
  have p2 := hP [] 0 _ _ (fun _ _ => by simp) (GrB.of g2) h0
  have nsC : IsNs oC (fun x => ([] : List (Str × Value)).reverse.lookup x) := ⟨es, ep, hnC⟩
  refine codeAny_compStart_list (env := compEnvC scope cl C env) ?_ (wpAny_of_noE (hself _ _ _ S₂ p2 ?_))
  all_goals refine compLoop_full (env := compEnvC scope cl C env) (fun k s' => ∃ i G₁ oC mc ys n, k = N + 1 - i ∧ i ≤ N ∧ St h₀ L s₀ m G₁ s' ∧ GrB fp (Ld, Tk) G₁ ∧ P i G₁ ∧ (C, oC) ∈ G₁.1 ∧ IsNs oC mc ∧ (D, lstO ys n) ∈ G₁.1 ∧
      All2 (fun y i => Elt i G₁ y) ys ((List.range i).filter Keep)) ?_ (N + 1) ⟨0, _, oC, _, [], 0, rfl, Nat.zero_le _, S₂, GrB.of g2, p2, outO_add (.head _), nsC, outO_gr0.a _ (.head _), .nil⟩
  all_goals
    rintro k s' ⟨i, G₁, oC, mc, ys, n, rfl, hi, S', g, p, hC, hn, hDm, ha⟩
    have hys : ys.length ≤ 1000 := by
      have := ha.length
      have := List.length_filter_le Keep (List.range i)
      rw [List.length_range] at this
      omega
    by_cases hiN : i = N
    · subst hiN
      refine wpAny_mono (last _ _ S' g p) (fun r s'' h => ?_) fun _ _ e => e
      obtain ⟨rfl, G', S'', g'⟩ := h
      exact hR D C ys n oC mc G' _ S'' (g.trans g') (g'.a _ hC hCf) hn (g'.a _ hDm hDf) fr hDC hCf hDf (ha.mono fun y j h => hE j fp _ _ _ y S' (hfp _ _ p) g' h)
    · have hlt : i < N := by omega
      refine wpAny_mono (turn i C _ _ oC mc hlt S' g p hC hn (fun p hp => (fr p hp).2)) (fun r s'' h => ?_) fun _ _ e => e
      cases r with
      | none => exact h.elim
      | some v =>
        refine wpAny_mono h (fun _ s'' h => wpAny_mono h (fun _ s'' h => wpAny_mono h (fun ok s'' h => ?_) fun _ _ e => e) fun _ _ e => e) fun _ _ e => e
        obtain ⟨rfl, h⟩ := h
        have nt1 : NT G₁ (C :: fp) := .cons hC hn.nt (hfp _ _ p)
        cases hK : Keep i with
        | false =>
          rw [hK] at h
          simp only [Bool.false_eq_true, if_false] at h ⊢
          obtain ⟨G', oC', mc', S'', g', p', hC', hn'⟩ := h
          refine ⟨N + 1 - (i + 1), by omega, i + 1, G', oC', mc', ys, n, rfl, hlt, S'', ⟨fun q hq hm => g'.a q (g.a q hq hm) ?_, fun q hq => g'.b q (g.b q hq)⟩, p', hC', hn', g'.a _ hDm ?_, ?_⟩
          · intro hx
            rcases List.mem_cons.mp hx with hx | hx
            · exact (fr q hq).2 hx
            · exact hm hx
          · intro hx
            rcases List.mem_cons.mp hx with hx | hx
            · exact hDC hx
            · exact hDf hx
          · rw [List.range_succ, List.filter_append, List.filter_cons_of_neg (by rw [hK]; decide), List.filter_nil, List.append_nil]
            exact ha.mono fun y j h => hE j _ _ _ _ y S' nt1 g' h
        | true =>
          rw [hK] at h
          simp only [if_true] at h ⊢
          refine wpAny_mono h (fun y s'' h => ?_) fun _ _ e => e
          obtain ⟨G', oC', mc', S'', g', p', hC', hn', he⟩ := h
          have hDm' : (D, lstO ys n) ∈ G'.1 := g'.a _ hDm fun hx => by
            rcases List.mem_cons.mp hx with hx | hx
            · exact hDC hx
            · exact hDf hx
          refine l_app S'' hDm' hys fun G'' s₃ S₃ g'' hD'' => ?_
          have nt2 : NT G' [D] := .cons hDm' lst_nt .nil
          refine ⟨N + 1 - (i + 1), by omega, i + 1, G'', oC', mc', ys ++ [y], n + 1, rfl, hlt, S₃, ⟨fun q hq hm => g''.a _ (g'.a q (g.a q hq hm) ?_) ?_, fun q hq => g''.b _ (g'.b q (g.b q hq))⟩, hP [D] _ _ _ (fun q hq hm => (fr q hq).1 (List.mem_singleton.mp hm)) g'' p', g''.a _ hC' (fun hm => hDC (List.mem_singleton.mp hm).symm), hn', hD'', ?_⟩
          · intro hx
            rcases List.mem_cons.mp hx with hx | hx
            · exact (fr q hq).2 hx
            · exact hm hx
          · exact fun hm => (fr q hq).1 (List.mem_singleton.mp hm)
          · rw [List.range_succ, List.filter_append, List.filter_cons_of_pos hK, List.filter_nil]
            refine All2.append (ha.mono fun y j h => hE j _ _ _ _ y S'' nt2 g'' (hE j _ _ _ _ y S' nt1 g' h)) (.cons (hE i _ _ _ _ y S'' nt2 g'' he) .nil)
end
end

-- C3
section

structure Wk (prog : Program) (w : World) (A : Around) (h₀ : Heap) (L : Addr) (s₀ : Shared) (target : Expr) (it : Value) (fp dom : List Addr) (N : Nat) (P : Nat → Ctx → Prop) (V : Nat → Ctx → Value → Prop) : Prop where
  nt : ∀ i G, P i G → NT G fp
  sub : ∀ a ∈ fp, a ∈ dom
  keep : ∀ X i G G', (∀ a ∈ dom, a ∉ X) → GrB X G G' → P i G → P i G'
  self : ∀ m G s (Q : Value → Shared → Prop), St h₀ L s₀ m G s → P 0 G → Q it s → wpAny (model prog w) A (pyIter it) Q noE s
  next : ∀ i m G s (Q : Value → Shared → Prop), i < N → St h₀ L s₀ m G s → P i G → (∀ v G' s', St h₀ L s₀ m G' s' → GrB fp G G' → P (i + 1) G' → V i G' v → Q v s') →
    wpAny (model prog w) A (pyNext it) (fun r s₁ => match r with | none => False | some v => wpAny (model prog w) A (letOwnedTupleGo target it v) (fun _ s₂ => Q v s₂) noE s₁) noE s
  last : ∀ m G s (Q : Option Value → Shared → Prop), St h₀ L s₀ m G s → P N G → (∀ G' s', St h₀ L s₀ m G' s' → GrB fp G G' → Q none s') → wpAny (model prog w) A (pyNext it) Q noE s

def Src (prog : Program) (w : World) (A : Around) (h₀ : Heap) (L : Addr) (s₀ : Shared) (target : Expr) (x : Value) (N : Nat) (V : Nat → Ctx → Value → Prop) (G₀ G : Ctx) : Prop :=
  ∀ m s (Q : Value → Shared → Prop), St h₀ L s₀ m G s → (∀ it fp dom P G₂ s₂, St h₀ L s₀ m G₂ s₂ → Gr G G₂ → P 0 G₂ → (∀ a ∈ fp, ∀ p ∈ G₀.1, p.1 ≠ a) → At G₂ dom → Wk prog w A h₀ L s₀ target it fp dom N P V → Q it s₂) →
    wpAny (model prog w) A (pyIter x) Q noE s

section
variable {prog : Program} {w : World} {A : Around} {h₀ : Heap} {L : Addr} {s₀ : Shared} {G₀ G : Ctx} {target : Expr}
theorem Src.list {l : Addr} {vs : List Value} {n : Nat} (hh : A.handled = none) (g : Gr G₀ G) (hl : (l, lstO vs n) ∈ G.1) : Src prog w A h₀ L s₀ target (.ref l) vs.length (fun i _ v => vs[i]? = some v) G₀ G := by
  intro m s Q S h
  refine it_list S hl fun I G₂ s₂ S₂ g₂ hi hI => ?_
  refine h (.ref I) [I] [I, l] (fun i G => LI G I l i ∧ (l, lstO vs n) ∈ G.1) G₂ s₂ S₂ g₂ ⟨hi, g₂.a _ hl⟩ (fun a ha p hp => by rw [List.mem_singleton.mp ha]; exact hI p (g.a _ hp)) (fun a ha => ?_) ⟨?_, ?_, ?_, ?_, ?_, ?_⟩
  · rcases List.mem_cons.mp ha with rfl | ha
    · obtain ⟨o, h, _⟩ := hi; exact ⟨o, h⟩
    · rw [List.mem_singleton.mp ha]; exact ⟨_, g₂.a _ hl⟩
  · intro i G h a ha
    rw [List.mem_singleton.mp ha]; exact h.1.nt
  · intro a ha; rw [List.mem_singleton.mp ha]; simp
  · intro X i G G' hX g h
    exact ⟨h.1.keep g (hX I (by simp)), g.a _ h.2 (hX l (by simp))⟩
  · intro m G s Q S h q
    exact wpAny_pyIter_listiter (h.1.at S) q
  · intro i m G s Q hi S h q
    refine nx_list S h.1 h.2 (List.getElem?_eq_getElem hi) fun G' s' S' g' hi' => ?_
    have hne : l ∉ [I] := fun e => by
      have := List.mem_singleton.mp e
      obtain ⟨o, h1, h2, _⟩ := h.1
      have h3 := h.2
      rw [this] at h3
      rw [S.fn h1 h3] at h2; simp at h2
    exact lg_list S' hi' (q _ _ _ S' g' ⟨hi', g'.a _ h.2 hne⟩ (List.getElem?_eq_getElem hi))
  · intro m G s Q S h q
    exact nx_list_end hh S h.1 h.2 (List.getElem?_eq_none (Nat.le_refl _)) q
theorem lg_rng {I : Addr} {x l t : Int} {m : NMap} {s : Shared} {E : Value → Shared → Prop} {v : Value} {Q : Unit → Shared → Prop} (S : St h₀ L s₀ m G s) (hi : (I, rngO x l t) ∈ G.1) (h : Q () s) : wpAny (model prog w) A (letOwnedTupleGo target (.ref I) v) Q E s := by
  unfold letOwnedTupleGo
  split
  all_goals first
    | exact wpAny_pure h
    | skip
  all_goals (split
             · rename_i e
               cases e
               exact wpAny_bind (wpAny_load (S.get hi) (wpAny_pure h))
             · exact wpAny_pure h)
theorem Src.rng {r : Addr} {a b c : Int} {t u v : Tok} {N : Nat} (hh : A.handled = none) (g : Gr G₀ G)
    (hr : (r, ({ cls := .type "range", dict := none, data := .fields #[.int a t, .int b u, .int c v], slots := #[] } : Obj)) ∈ G.1) (hsm : Builtin.Range.small a b c = true) (hN : Builtin.Range.rangeSize a b c = (N : Int)) :
    Src prog w A h₀ L s₀ target (.ref r) N (fun i _ v => ∃ t, v = .int (a + i * c) t) G₀ G := by
  intro m s Q S h
  refine it_rng S hr hsm fun I G₂ s₂ S₂ g₂ hi hI => ?_
  rw [hN] at hi
  refine h (.ref I) [I] [I] (fun i G => (I, rngO (a + i * c) ((N : Int) - i) c) ∈ G.1) G₂ s₂ S₂ g₂ (by simpa using hi) (fun a ha p hp => by rw [List.mem_singleton.mp ha]; exact hI p (g.a _ hp)) (fun a ha => by rw [List.mem_singleton.mp ha]; exact ⟨_, hi⟩) ⟨?_, ?_, ?_, ?_, ?_, ?_⟩
  · intro i G h a ha
    rw [List.mem_singleton.mp ha]; exact ⟨_, h, rng_nt⟩
  · intro a ha; exact ha
  · intro X i G G' hX g h
    exact g.a _ h (hX I (by simp))
  · intro m G s Q S h q
    have hT : s.TypeIs (.ref I) "range_iterator" := ⟨_, S.get h, rfl⟩
    refine wpAny_pyIter_slot hT F.slot_range_iterator_iter (wpAny_call_entry F.slot_range_iterator_iter hT F.entry_range_iterator_iter ?_ (F.args_range_iterator_iter_1 _))
    show wpAny _ _ (ret (.ref I)) _ _ s
    exact wpAny_pure ⟨_, rfl, "range_iterator", _, hT, F.slot_range_iterator_next.lookup, q⟩
  · intro i m G s Q hi S h q
    refine nx_rng S h (by lia) fun t G' s' S' g' hi' => ?_
    refine lg_rng S' hi' (q _ _ _ S' g' ?_ ⟨t, rfl⟩)
    have e1 : a + (i + 1 : Nat) * c = a + i * c + c := by rw [Int.natCast_add, Int.add_mul]; lia
    have e2 : (N : Int) - (i + 1 : Nat) = N - i - 1 := by lia
    rw [e1, e2]; exact hi'
  · intro m G s Q S h q
    exact nx_rng_end hh S h (by lia) q
theorem Src.enm {e I l : Addr} {vs : List Value} {n : Nat} {elts : List Expr} {x1} {pos : Pos} (hh : A.handled = none) (he : (e, enmO I 0 .none) ∈ G.1) (hi : LI G I l 0) (hne : e ≠ I) (hl : (l, lstO vs n) ∈ G.1) (hf : ∀ p ∈ G₀.1, p.1 ≠ I ∧ p.1 ≠ e) :
    Src prog w A h₀ L s₀ (.Tuple elts x1 pos) (.ref e) vs.length (fun i G v => ∃ a t u, v = .ref a ∧ vs[i]? = some u ∧ (a, tupO [.int i t, u]) ∈ G.1) G₀ G := by
  intro m s Q S h
  refine it_enm S he ?_
  refine h (.ref e) [e, I] [e, I, l] (fun i G => LI G I l i ∧ (l, lstO vs n) ∈ G.1 ∧ ∃ old, (e, enmO I (i : Int) old) ∈ G.1) G s S Gr.rfl ⟨hi, hl, _, he⟩ (fun a ha p hp => ?_) (fun a ha => ?_) ⟨?_, ?_, ?_, ?_, ?_, ?_⟩
  · rcases List.mem_cons.mp ha with rfl | ha
    · exact (hf p hp).2
    · rw [List.mem_singleton.mp ha]; exact (hf p hp).1
  · rcases List.mem_cons.mp ha with rfl | ha
    · exact ⟨_, he⟩
    · rcases List.mem_cons.mp ha with rfl | ha
      · obtain ⟨o, h, _⟩ := hi; exact ⟨o, h⟩
      · rw [List.mem_singleton.mp ha]; exact ⟨_, hl⟩
  · rintro i G ⟨h1, _, _, h3⟩
    exact .cons h3 enm_nt (fun a ha => by rw [List.mem_singleton.mp ha]; exact h1.nt)
  · intro a ha
    rcases List.mem_cons.mp ha with rfl | ha
    · simp
    · rw [List.mem_singleton.mp ha]; simp
  · rintro X i G G' hX g ⟨h1, h2, _, h3⟩
    exact ⟨h1.keep g (hX I (by simp)), g.a _ h2 (hX l (by simp)), _, g.a _ h3 (hX e (by simp))⟩
  · rintro m G s Q S ⟨_, _, _, h3⟩ q
    exact it_enm S h3 q
  · rintro i m G s Q hi S ⟨h1, h2, _, h3⟩ q
    have hle : l ∉ [e, I] := fun hm => by
      rcases List.mem_cons.mp hm with rfl | hm
      · have := congrArg Obj.cls (S.fn h2 h3); simp at this
      · have := List.mem_singleton.mp hm
        subst this
        obtain ⟨o, h4, h5, _⟩ := h1
        rw [S.fn h4 h2] at h5; simp at h5
    exact nx_enm S h3 h1 hne h2 (List.getElem?_eq_getElem hi) fun a t G' s' S' g' hi' he' ha => q _ _ _ S' g' ⟨hi', g'.a _ h2 hle, _, he'⟩ ⟨a, t, _, rfl, List.getElem?_eq_getElem hi, ha⟩
  · rintro m G s Q S ⟨h1, h2, _, h3⟩ q
    exact nx_enm_end hh S h3 h1 h2 (List.getElem?_eq_none (Nat.le_refl _)) q
end

theorem Gr.off {G₀ G₁ G' : Ctx} {C : Addr} (g : Gr G₀ G₁) (hf : ∀ p ∈ G₀.1, p.1 ≠ C) (k : GrB [C] G₁ G') : Gr G₀ G' := ⟨fun p hp => k.a _ (g.a _ hp) fun hm => hf p hp (List.mem_singleton.mp hm), fun p hp => k.b _ (g.b _ hp)⟩

structure Job (prog : Program) (w : World) (A : Around) (env : Env) (elt target : Expr) (ifs : List Expr) (scope : Scope) (cl : List (Str × Addr)) (h₀ : Heap) (L : Addr) (s₀ : Shared) (m : NMap) (mf : Value → NMap) (x : Value) (s : Shared) (Done : Value → Shared → Prop)
    (G₀ G : Ctx) (N : Nat) (V : Nat → Ctx → Value → Prop) (Keep : Nat → Bool) (Elt : Nat → Ctx → Value → Prop) : Prop where
  S : St h₀ L s₀ m G s
  g : Gr G₀ G
  src : Src prog w A h₀ L s₀ target x N V G₀ G
  hN : N ≤ 1000
  mono : ∀ i X G₁ G' s₁ y, St h₀ L s₀ m G₁ s₁ → NT G₁ X → GrB X G₁ G' → Elt i G₁ y → Elt i G' y
  turn : ∀ i v C G₁ s₁ oC mc, i < N → V i G₁ v → St h₀ L s₀ m G₁ s₁ → Gr G₀ G₁ → (∀ p ∈ G₀.1, p.1 ≠ C) → (C, oC) ∈ G₁.1 → IsNs oC mc →
    wpAny (model prog w) A (assign target (compEnvC scope cl C env) v) (fun _ s₂ => wpAny (model prog w) A (tests ifs (compEnvC scope cl C env)) (fun ok s₃ => ok = Keep i ∧
      if ok = true then wpAny (model prog w) A (eval elt (compEnvC scope cl C env)) (fun y s' => ∃ G' oC' mc', St h₀ L s₀ m G' s' ∧ GrB [C] G₁ G' ∧ (C, oC') ∈ G'.1 ∧ IsNs oC' mc' ∧ Elt i G' y) noE s₃
      else ∃ G' oC' mc', St h₀ L s₀ m G' s₃ ∧ GrB [C] G₁ G' ∧ (C, oC') ∈ G'.1 ∧ IsNs oC' mc') noE s₂) noE s₁
  done : ∀ D ys n G' s', St h₀ L s₀ (mf (.ref D)) G' s' → Gr G₀ G' → (D, lstO ys n) ∈ G'.1 → (∀ p ∈ G₀.1, p.1 ≠ D) → All2 (fun y i => Elt i G' y) ys ((List.range N).filter Keep) → Done (.ref D) s'

section
variable {prog : Program} {w : World} {A : Around} {E : Value → Shared → Prop} {h₀ : Heap} {L : Addr} {s₀ s : Shared} {m : NMap}
theorem job_block {env : Env} {elt target iter : Expr} {ifs : List Expr} {scope : Scope} {pos : Pos} {cl : List (Str × Addr)} {x : Value} {mf : Value → NMap} {Done : Value → Shared → Prop} {RR : Value → Addr → Result → Shared → Prop}
    {G₀ G : Ctx} {N : Nat} {V : Nat → Ctx → Value → Prop} {Keep : Nat → Bool} {Elt : Nat → Ctx → Value → Prop} (J : Job prog w A env elt target ifs scope cl h₀ L s₀ m mf x s Done G₀ G N V Keep Elt)
    (hcell : ∀ y ∈ scope.names, y.2 ≠ .cell) (hkind : scope.kind = .function)
    (hR : ∀ D C oC mc G' s', St h₀ L s₀ m G' s' → (C, oC) ∈ G'.1 → IsNs oC mc → (∀ s'', St h₀ L s₀ (mf D) (outO [C] [] G') s'' → Done D s'') → (∀ p ∈ G₀.1, p.1 ≠ C) → RR D C (.ok .next) s') :
    wpAny (model prog w) A (pyIter x) (fun it s₂ => wpAny (model prog w) A (newList []) (fun acc s₃ => wpAny (model prog w) A (newFunctionEnv scope env.globals cl [] env.qual none .none (some env)) (fun cenv s₄ =>
      codeAny (model prog w) A (.compStart (.ListComp elt [⟨target, iter, ifs, 0⟩] scope pos) 0 it acc { cenv with scope := relabel scope env }) (RR acc cenv.locals) s₄) E s₃) E s₂) E s := by
  refine wpAny_of_noE (J.src m s _ J.S fun it fp dom P G₂ s₂ S₂ g₂ p0 hf hdom W => ?_)
  have offX : ∀ X : List Addr, (∀ p ∈ G₂.1, p.1 ∉ X) → ∀ a ∈ dom, a ∉ X := fun X hX a ha => by obtain ⟨o, ho⟩ := hdom a ha; exact hX _ ho
  have toG₀ : ∀ G₁, GrB fp G₂ G₁ → Gr G₀ G₁ := fun G₁ g => ⟨fun p hp => g.a p (g₂.a p (J.g.a p hp)) fun hm => hf _ hm p hp rfl, fun p hp => g.b p (g₂.b p (J.g.b p hp))⟩
  refine comp_block S₂ N fp P Keep Elt J.hN W.nt p0 (fun X i G₁ G' hX g p => W.keep X i G₁ G' (offX X hX) g p) J.mono (fun Q G₁ s₁ S p q => W.self m G₁ s₁ Q S p q) ?_ ?_ hcell hkind ?_
  · intro i C G₁ s₁ oC mc hi S₁ g p hC hn hfr
    refine wpAny_mono (W.next i m G₁ s₁ _ hi S₁ p fun v G' s' S' g' p' hv => ?_) (fun r s₁ h => h) fun _ _ e => e
    have hCf : C ∉ fp := fun hm => by obtain ⟨o, ho⟩ := hdom C (W.sub _ hm); exact hfr _ ho rfl
    have hCd : ∀ a ∈ dom, a ∉ [C] := fun a ha hm => by obtain ⟨o, ho⟩ := hdom a ha; exact hfr _ ho (List.mem_singleton.mp hm)
    have hC' := g'.a _ hC hCf
    refine wpAny_mono (J.turn i v C G' s' oC mc hi hv S' (toG₀ G' (g.trans g')) (fun p hp => hfr p (g₂.a _ (J.g.a _ hp))) hC' hn) (fun _ s₂ h => wpAny_mono h (fun ok s₃ h => ⟨h.1, ?_⟩) fun _ _ e => e) fun _ _ e => e
    have h2 := h.2
    have widen : ∀ {G''}, GrB [C] G' G'' → GrB (C :: fp) G₁ G'' := fun g'' => ⟨fun q hq hn => g''.a _ (g'.a q hq fun hm => hn (.tail _ hm)) fun hm => hn (by rw [List.mem_singleton.mp hm]; exact .head _), fun q hq => g''.b _ (g'.b q hq)⟩
    cases hok : ok with
    | true =>
      rw [hok] at h2
      simp only [if_true] at h2 ⊢
      exact wpAny_mono h2 (fun y s' h => let ⟨G'', oC', mc', h1, h3, h4, h5, h6⟩ := h; ⟨G'', oC', mc', h1, widen h3, W.keep _ _ _ _ hCd h3 p', h4, h5, h6⟩) fun _ _ e => e
    | false =>
      rw [hok] at h2
      simp only [Bool.false_eq_true, if_false] at h2 ⊢
      obtain ⟨G'', oC', mc', h1, h3, h4, h5⟩ := h2
      exact ⟨G'', oC', mc', h1, widen h3, W.keep _ _ _ _ hCd h3 p', h4, h5⟩
  · intro G₁ s₁ S₁ g p
    exact W.last m G₁ s₁ _ S₁ p fun G' s' S' g' => ⟨rfl, G', S', g'⟩
  · intro D C ys n oC mc G' s' S' g hC hn hD hfr hDC hCf hDf ha
    have ntC : NT G' [C] := .cons hC hn.nt .nil
    have fC : ∀ p ∈ G₀.1, p.1 ≠ C := fun p hp => (hfr p (g₂.a _ (J.g.a _ hp))).2
    refine hR (.ref D) C oC mc G' s' S' hC hn (fun s'' S'' => ?_) fC
    exact J.done D ys n _ s'' S'' ⟨fun p hp => outO_gr.a _ ((toG₀ G' g).a _ hp) fun hm => fC p hp (List.mem_singleton.mp hm), (toG₀ G' g).b⟩ (outO_gr.a _ hD fun hm => hDC (List.mem_singleton.mp hm)) (fun p hp => (hfr p (g₂.a _ (J.g.a _ hp))).1)
      (ha.mono fun y i h => J.mono i [C] G' _ s' y S' ntC outO_gr h)

theorem compE {env : Env} {elt target iter : Expr} {ifs : List Expr} {scope : Scope} {pos : Pos} {cl : List (Str × Addr)} {Q : Value → Shared → Prop}
    (hclos : closureFor scope env = pure cl) (hcell : ∀ y ∈ scope.names, y.2 ≠ .cell) (hkind : scope.kind = .function) (hnames : ∀ y ∈ scope.names, y.2 = .local → scope.names.lookup y.1 = some .local)
    (h : wpAny (model prog w) A (eval iter env) (fun x s₁ => ∃ h₀ L s₀ m G₀ G N V Keep Elt, Job prog w A env elt target ifs scope cl h₀ L s₀ m (fun _ => m) x s₁ Q G₀ G N V Keep Elt) E s)
    (hs : ∀ x, foldedSetIterable iter env x = pure x := by intro _; rfl) :
    wpAny (model prog w) A (eval (.ListComp elt [⟨target, iter, ifs, 0⟩] scope pos) env) Q E s := by
  rw [eval_ListComp]
  refine wpAny_comprehension_free (use := none) rfl hs hclos hkind hnames (wpAny_mono h (fun x s₁ h₁ => ?_) fun _ _ e => e)
  obtain ⟨h₀, L, s₀, m, G₀, G, N, V, Keep, Elt, J⟩ := h₁
  refine job_block (RR := fun acc C => compPost (model prog w) A E none Q acc C) J hcell hkind ?_
  intro D C oC mc G' s' S' hC hn hD fC
  refine ⟨mc, hn.at (S'.get hC), fun h' hs' => ?_⟩
  exact hD _ (S'.upd [C] [] (tk := s'.toks) (fun b hb => by rw [List.mem_singleton.mp hb]; exact ⟨_, hC⟩) (fun b x hb e => (hs'.2 b (by simpa using hb)).trans e) (fun p hp => by simp at hp) (Nat.le_refl _))

theorem compA {cn : Str} {cs : Scope} {a : Addr} {ccd : Value} {cel : List (Str × Addr)} {elt target iter : Expr} {ifs : List Expr} {scope : Scope} {pos py spos : Pos} {y : Str} {cl : List (Str × Addr)} {Q : Flow → Shared → Prop}
    (hsw : swapsWith (.ListComp elt [⟨target, iter, ifs, 0⟩] scope pos) (some (.Name y py)) spos.line (envX cn cs L a ccd cel) = pure true)
    (hclos : closureFor scope (envX cn cs L a ccd cel) = pure cl) (hcell : ∀ y ∈ scope.names, y.2 ≠ .cell) (hkind : scope.kind = .function) (hnames : ∀ y ∈ scope.names, y.2 = .local → scope.names.lookup y.1 = some .local)
    (h : wpAny (model prog w) A (eval iter (envX cn cs L a ccd cel)) (fun x s₁ => ∃ h₀ s₀ m G₀ G N V Keep Elt, Job prog w A (envX cn cs L a ccd cel) elt target ifs scope cl h₀ L s₀ m (fun v z => if z = y then some v else m z) x s₁ (fun _ s' => Q .next s') G₀ G N V Keep Elt) E s)
    (hk : cs.kind = .function := by rfl) (hx : (envX cn cs L a ccd cel).kindOf y = some .local := by rfl)
    (hs : ∀ x, foldedSetIterable iter (envX cn cs L a ccd cel) x = pure x := by intro _; rfl) :
    wpAny (model prog w) A (exec (.Assign [.Name y py] (.ListComp elt [⟨target, iter, ifs, 0⟩] scope pos) spos) (envX cn cs L a ccd cel)) Q E s := by
  rw [exec_Assign_Name_used _ _ _ _ hsw]
  refine wpAny_bind (wpAny_standAt (wpAny_bind ?_))
  show wpAny _ A (do let _ ← comprehension (.ListComp elt [⟨target, iter, ifs, 0⟩] scope pos) scope (envX cn cs L a ccd cel) _ (newList []) false (eval iter (envX cn cs L a ccd cel)) (some (assign (.Name y py) (envX cn cs L a ccd cel)))) _ _ s
  refine wpAny_bind (wpAny_mono (wpAny_comprehension_free (use := some (assign (.Name y py) (envX cn cs L a ccd cel))) (Q := fun _ s' => Q .next s') rfl hs hclos hkind hnames
    (wpAny_mono h (fun x s₁ h₁ => ?_) fun _ _ e => e)) (fun _ s' hq => wpAny_pure (wpAny_pure hq)) fun _ _ e => e)
  obtain ⟨h₀, s₀, m, G₀, G, N, V, Keep, Elt, J⟩ := h₁
  refine job_block (RR := fun acc C => compPost (model prog w) A E (some (assign (.Name y py) (envX cn cs L a ccd cel))) (fun _ s' => Q .next s') acc C) J hcell hkind ?_
  intro D C oC mc G' s' S' hC hn hD fC
  show wpAny _ A (assign (.Name y py) (envX cn cs L a ccd cel) D) _ _ _
  refine wpAny_assign_Name (stL S' (fun s'' S'' => ?_) hk hx)
  refine ⟨mc, hn.at (S''.get hC), fun h' hs' => ?_⟩
  exact hD _ (S''.upd [C] [] (tk := s''.toks) (fun b hb => by rw [List.mem_singleton.mp hb]; exact ⟨_, hC⟩) (fun b x hb e => (hs'.2 b (by simpa using hb)).trans e) (fun p hp => by simp at hp) (Nat.le_refl _))
end

end

-- C4
section

section
variable {prog : Program} {w : World} {A : Around} {E : Value → Shared → Prop} {h₀ : Heap} {L : Addr} {s₀ s : Shared} {m : NMap} {G : Ctx} {env : Env}

theorem ForS {target iter : Expr} {body : List Stmt} {pos : Pos} {Q : Flow → Shared → Prop}
    (h : wpAny (model prog w) A (eval iter env) (fun x s₁ => wpAny (model prog w) A (pyIter x) (fun it s₂ => ∃ (N : Nat) (J : Nat → Shared → Prop), J 0 s₂ ∧
      (∀ i s, i < N → J i s → wpAny (model prog w) A (pyNext it) (fun r s₁ => match r with
        | none => False
        | some v => wpAny (model prog w) A (letOwnedTupleGo target it v) (fun _ s₂ => wpAny (model prog w) A (assign target env v) (fun _ s₃ => wpAny (model prog w) A (execs body env) (fun f s₄ => (f = .next ∨ f = .cont) ∧ J (i + 1) s₄) noE s₃) noE s₂) noE s₁) noE s) ∧
      (∀ s, J N s → wpAny (model prog w) A (pyNext it) (fun r s₁ => r = none ∧ Q .next s₁) noE s)) E s₁) E s)
    (hs : ∀ x, foldedSetIterable iter env x = pure x := by intro _; rfl) :
    wpAny (model prog w) A (exec (.For target iter body [] pos) env) Q E s := by
  refine wpAny_For (wpAny_mono h (fun x s₁ h => wpAny_mono h (fun it s₂ h => ?_) fun _ _ e => e) fun _ _ e => e) hs
  obtain ⟨N, J, j0, turn, last⟩ := h
  refine codeAny_forLoop_any (fun k s => ∃ i, k = N - i ∧ i ≤ N ∧ J i s) ?_ N ⟨0, rfl, Nat.zero_le _, j0⟩
  rintro k s ⟨i, rfl, hi, j⟩
  by_cases hiN : i = N
  · subst hiN
    refine wpAny_of_noE (wpAny_mono (last _ j) (fun r s₁ h => ?_) fun _ _ e => e)
    obtain ⟨rfl, q⟩ := h
    exact wpAny_execs_nil q
  · have hlt : i < N := by lia
    refine wpAny_of_noE (wpAny_mono (turn i s hlt j) (fun r s₁ h => ?_) fun _ _ e => e)
    cases r with
    | none => exact h.elim
    | some v =>
      refine wpAny_of_noE (wpAny_mono h (fun _ s₂ h => wpAny_of_noE (wpAny_mono h (fun _ s₃ h => wpAny_of_noE (wpAny_mono h (fun f s₄ h => ?_) fun _ _ e => e)) fun _ _ e => e)) fun _ _ e => e)
      obtain ⟨hf, q⟩ := h
      rcases hf with rfl | rfl
      · exact ⟨N - (i + 1), by lia, i + 1, rfl, hlt, q⟩
      · exact ⟨N - (i + 1), by lia, i + 1, rfl, hlt, q⟩

theorem WhileS {test : Expr} {body : List Stmt} {pos : Pos} {Q : Flow → Shared → Prop} (J : Nat → Shared → Prop) (n : Nat) (j0 : J n s)
    (turn : ∀ n s, J n s → wpAny (model prog w) A (isTrue test env (eval test env)) (fun b s₂ => if b then wpAny (model prog w) A (execs body env) (fun f s₃ => (f = .next ∨ f = .cont) ∧ ∃ k, k < n ∧ J k s₃) noE s₂ else Q .next s₂) noE s) :
    wpAny (model prog w) A (exec (.While test body [] pos) env) Q E s := by
  refine wpAny_While (codeAny_whileLoop J ?_ n j0)
  intro n s j
  refine wpAny_of_noE (wpAny_mono (turn n s j) (fun b s₂ h => ?_) fun _ _ e => e)
  cases b with
  | false =>
    simp only [Bool.false_eq_true, if_false] at h ⊢
    exact wpAny_execs_nil h
  | true =>
    simp only [if_true] at h ⊢
    refine wpAny_of_noE (wpAny_mono h (fun f s₃ h => ?_) fun _ _ e => e)
    obtain ⟨hf, k, hk, q⟩ := h
    rcases hf with rfl | rfl
    · exact ⟨k, hk, q⟩
    · exact ⟨k, hk, q⟩

theorem iNeg {a : Int} {t : Tok} {Q : Value → Shared → Prop} (S : St h₀ L s₀ m G s) (h : ∀ t s', St h₀ L s₀ m G s' → Q (.int (-a) t) s') : wpAny (model prog w) A (unaryOp .USub (.int a t)) Q E s := PyProof.Rows.neg_int (h _ _ (S.toks (Nat.le_succ _)))
-- tests of a comprehension
theorem tests_nil {Q : Bool → Shared → Prop} (h : Q true s) : wpAny (model prog w) A (tests [] env) Q E s := wpAny_tests_nil h
theorem tests_one {c : Expr} {Q : Bool → Shared → Prop} (h : wpAny (model prog w) A (isTrue c env (eval c env)) Q E s) : wpAny (model prog w) A (tests [c] env) Q E s := wpAny_tests_one h
-- a statement that gives None
theorem exN {e : Expr} {pos : Pos} {Q : Flow → Shared → Prop} (h : wpAny (model prog w) A (eval e env) (fun v s' => v = .none ∧ Q .next s') E s)
    (hi : interactive env = false := by rfl) (hs : swapsWith e none pos.line env = pure false := by rfl) : wpAny (model prog w) A (exec (.Expr e pos) env) Q E s := by
  refine wpAny_Expr (wpAny_mono h (fun v s' h => ?_) fun _ _ x => x) hi hs
  obtain ⟨rfl, h⟩ := h
  exact h
theorem exDoc {x : Str} {k : Nat} {p pos : Pos} {Q : Flow → Shared → Prop} (S : St h₀ L s₀ m G s) (h : ∀ s', St h₀ L s₀ m G s' → Q .next s')
    (hi : interactive env = false := by rfl) (hs : swapsWith (.Constant (.str x) k p) none pos.line env = pure false := by rfl) : wpAny (model prog w) A (exec (.Expr (.Constant (.str x) k p) pos) env) Q E s :=
  wpAny_Expr (wpAny_Constant_str (h _ (S.toks (Nat.le_succ _)))) hi hs
theorem tLst {l : Addr} {vs : List Value} {n : Nat} {Q : Bool → Shared → Prop} (S : St h₀ L s₀ m G s) (hm : (l, lstO vs n) ∈ G.1) (hsz : vs.length ≤ 1000) (h : ∀ s', St h₀ L s₀ m G s' → Q (!vs.isEmpty) s') : wpAny (model prog w) A (truthy (.ref l)) Q E s := by
  refine wpAny_truthy_list (S.isList hm) (by rw [List.size_toArray]; lia) ?_
  have : vs.toArray.isEmpty = vs.isEmpty := by cases vs <;> rfl
  rw [this]
  exact h _ (S.toks (by lia))
-- a list's methods
theorem meth {o : Expr} {apos pos : Pos} {e : Expr} {rest : List Expr} {name : Str} {Q : Value → Shared → Prop}
    (h : wpAny (model prog w) A (eval o env) (fun ov s₁ => ∃ id, (∀ (R : Value × List Value → Shared → Prop) (pl : Sem Bool), R (.builtin id, [ov]) s₁ → wpAny (model prog w) A (getMethod ov name pl) R E s₁) ∧
      wpAny (model prog w) A (spliced (backTo pos (starEach (e :: rest) env))) (fun vs s₂ => wpAny (model prog w) A (call (.builtin id) (ov :: vs)) Q E s₂) E s₁) E s)
    (pl : Sem Bool) (he : eval (.Call (.Attribute o name apos) (e :: rest) [] pos) env = (do
      let ov ← eval o env
      standAt apos.atName
      let (f, first) ← holding [ov] (getMethod ov name pl)
      callWith pos f first (backTo pos (starEach (e :: rest) env)) (backToKw pos (keywordEach [] env))) := by rfl)
    (he' : starEach (e :: rest) env = (false, eval e env) :: starEach rest env := by rfl)
    (hplain : (backTo pos (starEach rest env)).any (·.1) = false := by rfl) :
    wpAny (model prog w) A (eval (.Call (.Attribute o name apos) (e :: rest) [] pos) env) Q E s := by
  refine methodCall_KW (pl := pl) (wpAny_mono h (fun ov s₁ h => ?_) fun _ _ x => x) he
  obtain ⟨id, h1, h2⟩ := h
  refine h1 _ _ ?_
  show wpAny _ _ (callWith pos (.builtin id) [ov] (backTo pos (starEach (e :: rest) env)) []) _ _ _
  rw [he'] at h2 ⊢
  exact callWith_builtin (by show (false || (backTo pos (starEach rest env)).any (·.1)) = false; rw [hplain]; rfl) (evalArgs_plain h2)
theorem meth0 {o : Expr} {apos pos : Pos} {name : Str} {Q : Value → Shared → Prop}
    (h : wpAny (model prog w) A (eval o env) (fun ov s₁ => ∃ id, (∀ (R : Value × List Value → Shared → Prop) (pl : Sem Bool), R (.builtin id, [ov]) s₁ → wpAny (model prog w) A (getMethod ov name pl) R E s₁) ∧
      wpAny (model prog w) A (call (.builtin id) [ov]) Q E s₁) E s)
    (pl : Sem Bool) (he : eval (.Call (.Attribute o name apos) [] [] pos) env = (do
      let ov ← eval o env
      standAt apos.atName
      let (f, first) ← holding [ov] (getMethod ov name pl)
      callWith pos f first (backTo pos (starEach [] env)) (backToKw pos (keywordEach [] env))) := by rfl) :
    wpAny (model prog w) A (eval (.Call (.Attribute o name apos) [] [] pos) env) Q E s := by
  refine methodCall_KW (pl := pl) (wpAny_mono h (fun ov s₁ h => ?_) fun _ _ x => x) he
  obtain ⟨id, h1, h2⟩ := h
  refine h1 _ _ ?_
  show wpAny _ _ (callWith pos (.builtin id) [ov] [] []) _ _ _
  exact callWith_builtin rfl (evalArgs_nil3 h2)
theorem gm {D : Addr} {vs : List Value} {n : Nat} {name : Str} {id : String} {R : Value × List Value → Shared → Prop} (S : St h₀ L s₀ m G s) (hm : (D, lstO vs n) ∈ G.1) (slot : Slot "list" name id) (hty : typeOf (.builtin id) = pure (.type "method_descriptor"))
    (pl : Sem Bool) (h : R (.builtin id, [.ref D]) s) : wpAny (model prog w) A (getMethod (.ref D) name pl) R E s :=
  getMethod_builtin ⟨_, S.get hm, rfl⟩ PySem.F.plainAttrs_list slot hty (fun a e => by cases e; exact ⟨_, S.get hm, rfl⟩) h

theorem gm_count {D : Addr} {vs : List Value} {n : Nat} {P : String → Prop} (S : St h₀ L s₀ m G s) (hm : (D, lstO vs n) ∈ G.1) (h : P "list.count") :
    ∃ id, (∀ (R : Value × List Value → Shared → Prop) (pl : Sem Bool), R (.builtin id, [.ref D]) s → wpAny (model prog w) A (getMethod (.ref D) (Str.ofString "count") pl) R E s) ∧ P id :=
  ⟨_, fun _ pl hR => gm S hm PySem.F.slot_list_count PySem.F.type_list_count pl hR, h⟩
theorem gm_index {D : Addr} {vs : List Value} {n : Nat} {P : String → Prop} (S : St h₀ L s₀ m G s) (hm : (D, lstO vs n) ∈ G.1) (h : P "list.index") :
    ∃ id, (∀ (R : Value × List Value → Shared → Prop) (pl : Sem Bool), R (.builtin id, [.ref D]) s → wpAny (model prog w) A (getMethod (.ref D) (Str.ofString "index") pl) R E s) ∧ P id :=
  ⟨_, fun _ pl hR => gm S hm PySem.F.slot_list_index PySem.F.type_list_index pl hR, h⟩
theorem gm_append {D : Addr} {vs : List Value} {n : Nat} {P : String → Prop} (S : St h₀ L s₀ m G s) (hm : (D, lstO vs n) ∈ G.1) (h : P "list.append") :
    ∃ id, (∀ (R : Value × List Value → Shared → Prop) (pl : Sem Bool), R (.builtin id, [.ref D]) s → wpAny (model prog w) A (getMethod (.ref D) (Str.ofString "append") pl) R E s) ∧ P id :=
  ⟨_, fun _ pl hR => gm S hm PySem.F.slot_list_append PySem.F.type_list_append pl hR, h⟩
theorem gm_remove {D : Addr} {vs : List Value} {n : Nat} {P : String → Prop} (S : St h₀ L s₀ m G s) (hm : (D, lstO vs n) ∈ G.1) (h : P "list.remove") :
    ∃ id, (∀ (R : Value × List Value → Shared → Prop) (pl : Sem Bool), R (.builtin id, [.ref D]) s → wpAny (model prog w) A (getMethod (.ref D) (Str.ofString "remove") pl) R E s) ∧ P id :=
  ⟨_, fun _ pl hR => gm S hm PySem.F.slot_list_remove PySem.F.type_list_remove pl hR, h⟩
theorem gm_pop {D : Addr} {vs : List Value} {n : Nat} {P : String → Prop} (S : St h₀ L s₀ m G s) (hm : (D, lstO vs n) ∈ G.1) (h : P "list.pop") :
    ∃ id, (∀ (R : Value × List Value → Shared → Prop) (pl : Sem Bool), R (.builtin id, [.ref D]) s → wpAny (model prog w) A (getMethod (.ref D) (Str.ofString "pop") pl) R E s) ∧ P id :=
  ⟨_, fun _ pl hR => gm S hm PySem.F.slot_list_pop PySem.F.type_list_pop pl hR, h⟩
theorem gm_extend {D : Addr} {vs : List Value} {n : Nat} {P : String → Prop} (S : St h₀ L s₀ m G s) (hm : (D, lstO vs n) ∈ G.1) (h : P "list.extend") :
    ∃ id, (∀ (R : Value × List Value → Shared → Prop) (pl : Sem Bool), R (.builtin id, [.ref D]) s → wpAny (model prog w) A (getMethod (.ref D) (Str.ofString "extend") pl) R E s) ∧ P id :=
  ⟨_, fun _ pl hR => gm S hm PySem.F.slot_list_extend PySem.F.type_list_extend pl hR, h⟩

-- items, parts, lengths
theorem gIt {value slice : Expr} {l : Addr} {vs : List Value} {n : Nat} {k : Int} {u : Tok} {x : Value} {Q : Value → Shared → Prop} (S : St h₀ L s₀ m G s) (hm : (l, lstO vs n) ∈ G.1) (h0 : 0 ≤ k) (hfit : k < 2 ^ 63) (hx : vs[k.toNat]? = some x) (h : Q x s)
    (hs : subscripted slice false (.ref l) (.int k u) = operate [.ref l, .int k u] (getItem (.ref l) (.int k u)) := by with_unfolding_all rfl) :
    wpAny (model prog w) A (subscriptTail value slice (.ref l) (.int k u)) Q E s :=
  tail_any (S.isList hm).typeIs slot_list_getitem.lookup (wpAny_getItem_list (S.isList hm) h0 hfit (by simpa using hx) h) hs
def SlFrom (E : Value → Shared → Prop) (Q : Value → Shared → Prop) (o v : Value) (s : Shared) : Prop :=
  ∃ (h₀ : Heap) (L : Addr) (s₀ : Shared) (l : Addr) (vs : List Value) (n a t : Nat) (m : NMap) (G : Ctx), o = .ref l ∧ v = .int (a : Int) t ∧ St h₀ L s₀ m G s ∧ (l, lstO vs n) ∈ G.1 ∧ vs.length ≤ 1000 ∧
      ∀ D D' o' s', St h₀ L s₀ m ((D, lstO (vs.drop a) 0) :: (D', o') :: G.1, G.2) s' → (∀ p ∈ G.1, p.1 ≠ D) → Q (.ref D) s'
def SlTo (E : Value → Shared → Prop) (Q : Value → Shared → Prop) (o v : Value) (s : Shared) : Prop :=
  ∃ (h₀ : Heap) (L : Addr) (s₀ : Shared) (l : Addr) (vs : List Value) (n a t : Nat) (m : NMap) (G : Ctx), o = .ref l ∧ v = .int (a : Int) t ∧ St h₀ L s₀ m G s ∧ (l, lstO vs n) ∈ G.1 ∧ vs.length ≤ 1000 ∧
      ∀ D D' o' s', St h₀ L s₀ m ((D, lstO (vs.take a) 0) :: (D', o') :: G.1, G.2) s' → (∀ p ∈ G.1, p.1 ≠ D) → Q (.ref D) s'
theorem gFrom {value lower : Expr} {p pos : Pos} {Q : Value → Shared → Prop}
    (h : wpAny (model prog w) A (eval value env) (fun o s₁ => wpAny (model prog w) A (eval lower env) (fun v s₂ => SlFrom E Q o v s₂) E s₁) E s)
    (ht : ∀ o r, letTemporaryGo value o r = pure () := by intro _ _; rfl) : wpAny (model prog w) A (eval (.Subscript value (.Slice (some lower) none none p) pos) env) Q E s := by
  refine wpAny_Subscript_list_slice (wpAny_mono h (fun o s₁ h => ?_) fun _ _ x => x) ht
  show wpAny _ _ (eval lower env) _ _ _
  refine wpAny_mono h (fun v s₂ h => ?_) fun _ _ x => x
  obtain ⟨h₀, L, s₀, l, vs, n, a, t, m, G, rfl, rfl, S, hm, hsz, q⟩ := h
  refine wpAny_pure ⟨l, vs.toArray, some (a : Int), none, rfl, S.isList hm, by rw [List.size_toArray]; exact Nat.le_trans hsz (by rw [sizeLine_eq]; decide), .int _ _, .none, ?_⟩
  rw [slicePick_from']
  have S1 := S.new1 (o := { cls := .type "slice", data := .fields #[.int (a : Int) t, Value.none, .none] }) (tk := s₂.toks) rfl (Nat.le_refl _)
  have S2 := S1.new1 (o := lstO (vs.drop a) 0) (tk := s₂.toks) rfl (Nat.le_refl _)
  have hsz2 : (s₂.heap.push { cls := .type "slice", data := .fields #[.int (a : Int) t, Value.none, .none] }).objs.size = s₂.heap.objs.size + 1 := Heap.size_push ..
  have S3 : St h₀ L s₀ m ((s₂.heap.objs.size + 1, lstO (vs.drop a) 0) :: (s₂.heap.objs.size, _) :: G.1, G.2) _ := hsz2 ▸ S2
  exact q _ _ _ _ S3 (fresh_of S (none_size (Nat.le_succ _)))
theorem gTo {value upper : Expr} {p pos : Pos} {Q : Value → Shared → Prop}
    (h : wpAny (model prog w) A (eval value env) (fun o s₁ => wpAny (model prog w) A (eval upper env) (fun v s₂ => SlTo E Q o v s₂) E s₁) E s)
    (ht : ∀ o r, letTemporaryGo value o r = pure () := by intro _ _; rfl) : wpAny (model prog w) A (eval (.Subscript value (.Slice none (some upper) none p) pos) env) Q E s := by
  refine wpAny_Subscript_list_slice (wpAny_mono h (fun o s₁ h => ?_) fun _ _ x => x) ht
  refine wpAny_pure ?_
  show wpAny _ _ (eval upper env) _ _ _
  refine wpAny_mono h (fun v s₂ h => ?_) fun _ _ x => x
  obtain ⟨h₀, L, s₀, l, vs, n, a, t, m, G, rfl, rfl, S, hm, hsz, q⟩ := h
  refine ⟨l, vs.toArray, none, some (a : Int), rfl, S.isList hm, by rw [List.size_toArray]; exact Nat.le_trans hsz (by rw [sizeLine_eq]; decide), .none, .int _ _, ?_⟩
  rw [slicePick_upto']
  have S1 := S.new1 (o := { cls := .type "slice", data := .fields #[Value.none, .int (a : Int) t, .none] }) (tk := s₂.toks) rfl (Nat.le_refl _)
  have S2 := S1.new1 (o := lstO (vs.take a) 0) (tk := s₂.toks) rfl (Nat.le_refl _)
  have hsz2 : (s₂.heap.push { cls := .type "slice", data := .fields #[Value.none, .int (a : Int) t, .none] }).objs.size = s₂.heap.objs.size + 1 := Heap.size_push ..
  have S3 : St h₀ L s₀ m ((s₂.heap.objs.size + 1, lstO (vs.take a) 0) :: (s₂.heap.objs.size, _) :: G.1, G.2) _ := hsz2 ▸ S2
  exact q _ _ _ _ S3 (fresh_of S (none_size (Nat.le_succ _)))
theorem slTo {Ld : Led} {Tk : Tks} {Q : Value → Shared → Prop} {l : Addr} {vs : List Value} {n : Nat} {a : Int} {t : Tok} (S : St h₀ L s₀ m (Ld, Tk) s) (hm : (l, lstO vs n) ∈ Ld) (hsz : vs.length ≤ 1000) (h0 : 0 ≤ a)
    (h : ∀ D D' o' s', St h₀ L s₀ m ((D, lstO (vs.take a.toNat) 0) :: (D', o') :: Ld, Tk) s' → (∀ p ∈ Ld, p.1 ≠ D) → Q (.ref D) s') : SlTo E Q (.ref l) (.int a t) s :=
  ⟨h₀, L, s₀, l, vs, n, a.toNat, t, m, (Ld, Tk), rfl, by rw [Int.toNat_of_nonneg h0], S, hm, hsz, h⟩
theorem slFrom {Ld : Led} {Tk : Tks} {Q : Value → Shared → Prop} {l : Addr} {vs : List Value} {n : Nat} {a : Int} {t : Tok} (S : St h₀ L s₀ m (Ld, Tk) s) (hm : (l, lstO vs n) ∈ Ld) (hsz : vs.length ≤ 1000) (h0 : 0 ≤ a)
    (h : ∀ D D' o' s', St h₀ L s₀ m ((D, lstO (vs.drop a.toNat) 0) :: (D', o') :: Ld, Tk) s' → (∀ p ∈ Ld, p.1 ≠ D) → Q (.ref D) s') : SlFrom E Q (.ref l) (.int a t) s :=
  ⟨h₀, L, s₀, l, vs, n, a.toNat, t, m, (Ld, Tk), rfl, by rw [Int.toNat_of_nonneg h0], S, hm, hsz, h⟩
theorem cLen {l : Addr} {vs : List Value} {n : Nat} {Q : Value → Shared → Prop} (S : St h₀ L s₀ m G s) (hm : (l, lstO vs n) ∈ G.1) (hsz : vs.length ≤ 1000)
    (h : ∀ t s', St h₀ L s₀ m G s' → Q (.int (vs.length : Nat) t) s') : wpAny (model prog w) A (call (.builtin "len") [.ref l]) Q E s :=
  Calls.call_len_list (S.isList hm) (by rw [List.size_toArray]; lia) (by rw [List.size_toArray]; exact h _ _ (S.toks (by lia)))
theorem cCopy {Ld : Led} {Tk : Tks} {l : Addr} {vs : List Value} {n : Nat} {Q : Value → Shared → Prop} (S : St h₀ L s₀ m (Ld, Tk) s) (hm : (l, lstO vs n) ∈ Ld) (hsz : vs.length ≤ 1000)
    (h : ∀ D c s', St h₀ L s₀ m ((D, lstO vs c) :: Ld, Tk) s' → (∀ p ∈ Ld, p.1 ≠ D) → Q (.ref D) s') : wpAny (model prog w) A (call (.type "list") [.ref l]) Q E s := by
  refine list_copyK S.F S.N (S.isList hm) (fun D c h' F' N' hlt => ?_) (by rw [List.size_toArray]; exact Nat.le_trans hsz (by rw [sizeLine_eq]; decide))
  exact h D c _ (S.heap F' N' rfl) fun p hp => Nat.ne_of_lt (hlt p hp)
theorem sIt {l : Addr} {vs : List Value} {n : Nat} {k : Int} {u : Tok} {x : Value} {Q : Unit → Shared → Prop} (S : St h₀ L s₀ m G s) (hm : (l, lstO vs n) ∈ G.1) (h0 : 0 ≤ k) (hfit : k < 2 ^ 63) (hk : k < vs.length)
    (h : ∀ G' s', St h₀ L s₀ m G' s' → GrB [l] G G' → (l, lstO (vs.set k.toNat x) n) ∈ G'.1 → Q () s') : wpAny (model prog w) A (setItem (.ref l) (.int k u) x) Q E s := by
  refine ki_setAt (S.get hm) h0 hfit (by simpa using hk) ?_
  have e : (Obj.mapSeq (·.setIfInBounds k.toNat x)) (lstO vs n) = lstO (vs.set k.toNat x) n := by
    simp [Obj.mapSeq, Array.size_setIfInBounds]
  have ho : (s.heap.update l (Obj.mapSeq (·.setIfInBounds k.toNat x))).get? l = some (lstO (vs.set k.toNat x) n) := by
    rw [Heap.get?_update_self _ (S.get hm) (by rw [e]; rfl), e]
  exact h _ _ (S.upd1 hm (Heap.SameBut.update ..) ho) outO_gr (outO_add (.head _))
theorem in_iv (S : St h₀ L s₀ m G s) (nb : NoneBooked s.heap) {l : Addr} {vs : List Value} {n : Nat} {xs : List Int} (hl : (l, lstO vs n) ∈ G.1) (hd : All2 (NV false G.2) vs xs) {x : Int} {t : Tok} {Q : Value → Shared → Prop}
    (h : Q (.bool (decide (x ∈ xs))) s) : wpAny (model prog w) A (compareOp .In (.int x t) (.ref l)) Q E s := by
  refine in_listAt (fun y => match y with | .int z _ => decide (z = x) | _ => false) (S.isList hl) (fun y hy => ?_) ?_
  · obtain ⟨z, _, hz⟩ := hd.mem (by simpa using hy)
    have q := eq_scalar (A := A.in1) S.tkOk nb hz (NV.int (T := G.2) (x := x) (t := t))
    obtain ⟨t', e⟩ := hz
    subst e
    exact q
  · have key : ∀ {us : List Value} {zs : List Int}, All2 (NV false G.2) us zs → us.any (fun y => match y with | .int z _ => decide (z = x) | _ => false) = decide (x ∈ zs) := by
      intro us zs hd
      induction hd with
      | nil => rfl
      | @cons y z us zs a _ ih =>
        obtain ⟨t', rfl⟩ := a
        rw [List.any_cons, ih]
        by_cases hzx : z = x
        · subst hzx; simp
        · have : ¬ x = z := fun h => hzx h.symm
          simp [hzx, this]
    have : vs.toArray.any (fun y => match y with | .int z _ => decide (z = x) | _ => false) = decide (x ∈ xs) := by rw [List.any_toArray]; exact key hd
    rw [this]; exact h
end
theorem rng_down {n : Nat} (hn : n ≤ 1000) : Builtin.Range.small ((n : Int) - 1) (-1) (-1) = true ∧ Builtin.Range.rangeSize ((n : Int) - 1) (-1) (-1) = (n : Int) := by
  have e : Builtin.Range.rangeSize ((n : Int) - 1) (-1) (-1) = (n : Int) := by
    unfold Builtin.Range.rangeSize
    by_cases h : (-1 : Int) < (n : Int) - 1
    · simp [h]
    · have : n = 0 := by lia
      subst this; simp
  refine ⟨?_, e⟩
  unfold Builtin.Range.small
  rw [e]
  unfold Builtin.Range.rangeFitsLong
  simp
  lia
theorem rng_up {a n : Int} (h0 : 0 ≤ a) (hn0 : 0 ≤ n) (hn : n ≤ 1000) (ha : a ≤ 1000) : Builtin.Range.small a n 1 = true ∧ Builtin.Range.rangeSize a n 1 = ((n - a).toNat : Int) := by
  have e : Builtin.Range.rangeSize a n 1 = ((n - a).toNat : Int) := by
    rw [rangeSize_one]
    split <;> lia
  refine ⟨?_, e⟩
  unfold Builtin.Range.small
  rw [e]
  unfold Builtin.Range.rangeFitsLong
  simp
  lia
end
section
theorem All2.mapR {α β γ : Type} {R : α → γ → Prop} {g : β → γ} {xs : List α} {ys : List β} (h : All2 (fun x y => R x (g y)) xs ys) : All2 R xs (ys.map g) := by
  induction h with
  | nil => exact .nil
  | cons a _ ih => exact .cons a ih
theorem range_getD {α : Type} (xs : List α) (d : α) : (List.range xs.length).map (fun i => xs.getD i d) = xs := by
  apply List.ext_getElem (by simp)
  intro i h1 h2
  simp [h2]
theorem filter_getD {α : Type} (xs : List α) (d : α) (p : α → Bool) : ((List.range xs.length).filter (fun i => p (xs.getD i d))).map (fun i => xs.getD i d) = xs.filter p := by
  have := List.filter_map (f := fun i => xs.getD i d) (p := p) (l := List.range xs.length)
  rw [range_getD] at this
  rw [this]; rfl
theorem All2.pick {α β γ : Type} {R : α → γ → Prop} {f : β → γ} {ns : List β} {dft : β} {p : β → Bool} {ys : List α} (h : All2 (fun y i => R y (f (ns.getD i dft))) ys ((List.range ns.length).filter fun i => p (ns.getD i dft))) : All2 R ys ((ns.filter p).map f) := by
  have := All2.mapR (R := R) (g := fun i => f (ns.getD i dft)) h
  rw [← filter_getD ns dft p, List.map_map]
  exact this
theorem All2.pickAll {α β γ : Type} {R : α → γ → Prop} {f : β → γ} {ns : List β} {dft : β} {ys : List α} (h : All2 (fun y i => R y (f (ns.getD i dft))) ys ((List.range ns.length).filter fun _ => true)) : All2 R ys (ns.map f) := by
  have := All2.pick (p := fun _ => true) h
  rwa [List.filter_eq_self.mpr (fun _ _ => rfl)] at this
end

-- E1
section
open Sem (wp)

def ExcIn (G : Ctx) (e tb : Addr) (X : String) (ctx fl : Value) : Prop :=
  ∃ oe ot t ts, (e, oe) ∈ G.1 ∧ oe.cls = .type X ∧ oe.data = .fields #[t, .ref tb, ctx, .none, .bool false, .none] ∧ (tb, ot) ∈ G.1 ∧ ot.data = .fields ts ∧ ts[3]? = some fl ∧ e ≠ tb
section
variable {K : Frag} {p : Program} {loose : List Str} {A : Around} {env : Env} {h₀ : Heap} {L : Addr} {d : Nat} {s₀ s : Shared} {m : NMap} {G : Ctx} {M : Model} {E : Value → Shared → Prop}

structure Fresh (h h' : Heap) (e : Addr) (X : String) (ctx : Value) : Prop where
  keeps : ∀ b o, h.get? b = some o → h'.get? b = some o
  new : h.get? e = none
  there : ∃ ob t, h'.get? e = some ob ∧ ob.cls = .type X ∧ ob.data = .fields #[t, .none, ctx, .none, .bool false, .none]
theorem Fresh.of {h h' : Heap} {e : Addr} {X : String} (x : Heap.NewExc h h' e X) : Fresh h h' e X .none := ⟨x.keeps, x.new, x.there⟩

theorem note_newG {A' : Around} (hA' : A'.frames = A.frames) (am : Amb K p loose A env h₀ L d) (S : St h₀ L s₀ m G s) {h' : Heap} {tk : Nat} {e : Addr} {X : String} {ctx : Value} (hx : Fresh s.heap h' e X ctx) (ht : s.toks ≤ tk) {Q : Unit → Shared → Prop}
    (k : ∀ g' tb G' s₂, Tn A h₀ g' → Amb K p loose A env g' L d → St g' L s₀ m G' s₂ → Gr G G' → (∀ q ∈ G.1, q.1 ≠ e ∧ q.1 ≠ tb) → ExcIn G' e tb X ctx (rawInt L) → Q () s₂) :
    wpAny M A' (noteFrame (.ref e) env) Q E { s with heap := h', toks := tk } := by
  obtain ⟨A₀, base, outer, B, hA, XB, mean, mg, mb, TB⟩ := am.below
  obtain ⟨oe, t, he, hcls, hd⟩ := hx.there
  -- the frames stand
  have hL0 : h₀.get? L = none := kts_self S.F
  obtain ⟨oL, es, ep, hLg, hLd, rL⟩ := S.F.ns
  have hbL : base.get? L = none := by
    cases q : base.get? L with
    | none => rfl
    | some o => rw [B.stays L o q] at hL0; cases hL0
  have hfun : h'.FunFrames base (env :: outer) := by
    have h1 : h₀.FunFrames base outer := B.frames
    refine ⟨by rw [am.kind]; decide, ⟨L, oL, am.fr, hbL, hx.keeps _ _ hLg, fun vs q => by rw [hLd] at q; cases q⟩, ?_⟩
    exact h1.of_keeps fun b o hb _ => ⟨o, hx.keeps _ _ (S.F.keep b o hb), rfl⟩
  unfold noteFrame
  simp only [am.fr]
  refine wpAny_bind (wpAny_field he hd (x := .none) rfl ?_)
  rw [if_neg (by decide)]
  refine wpAny_bind (wpAny_frameOf_fun (hA'.trans hA) hfun am.fr fun h₁ hs₁ => ?_)
  have hfs : (env :: outer).filterMap (·.frame) = L :: outer.filterMap (·.frame) := by rw [List.filterMap_cons, am.fr]
  rw [hfs] at hs₁
  refine wpAny_bind (wpAny_entryPlaceOf fun pl hpl => ?_)
  unfold EntryCells.newEntry newFields
  refine wpAny_bind (wpAny_newObj_type ?_ (hpl.sizeOk5 _ _ _ _ _))
  have hef : e ∉ L :: outer.filterMap (·.frame) := fun hm => by
    rcases List.mem_cons.mp hm with q | q
    · rw [q] at hx; have := hx.new; rw [hLg] at this; cases this
    · obtain ⟨_, o, ho, _⟩ := B.frames.mem q
      have := S.F.keep _ _ ho
      rw [hx.new] at this; cases this
  have he₁ : h₁.get? e = some oe := (hs₁.2.1 e hef).trans he
  generalize hO : ({ cls := .type "traceback", dict := none, data := .fields ([.none, .ref L, .none, rawInt L, .none] ++ (if pl.isEmpty then List.replicate 6 Value.none else pl)).toArray } : Obj) = tbo
  have hfree : tbo.isFreed = false := by rw [← hO]; rfl
  have he₂ := Heap.get?_push_of_some (h := h₁) tbo he₁
  refine wpAny_setField he₂ hd (by simp) ?_
  have hTe : h₁.objs.size ≠ e := Nat.ne_of_gt (Heap.lt_size he₁)
  have hd₃ := Obj.data_mapFields hd (·.setIfInBounds 1 (Value.ref h₁.objs.size))
  generalize hF : ((h₁.push tbo).update e (Obj.mapFields (·.setIfInBounds 1 (Value.ref h₁.objs.size)))) = hf
  have he₃ : hf.get? e = some (Obj.mapFields (·.setIfInBounds 1 (Value.ref h₁.objs.size)) oe) := by rw [← hF]; exact Heap.get?_update_self _ he₂ (Obj.isFreed_of_fields hd₃)
  have hT₃ : hf.get? h₁.objs.size = some tbo := by rw [← hF]; exact (Heap.get?_update_other _ _ (Ne.symm hTe)).trans (Heap.get?_push_size h₁ hfree)
  have other : ∀ b o, b ≠ e → h₁.get? b = some o → hf.get? b = some o := fun b o hb ho => by
    rw [← hF]; exact (Heap.get?_update_other _ _ (Ne.symm hb)).trans (Heap.get?_push_of_some _ ho)
  have hne : ∀ b o, s.heap.get? b = some o → b ≠ e := fun b o hb q => by rw [q, hx.new] at hb; cases hb
  -- what is no frame stays, a frame stays up to its slots
  have stay : ∀ b o, s.heap.get? b = some o → b ∉ L :: outer.filterMap (·.frame) → hf.get? b = some o := fun b o hb nm => other b o (hne b o hb) ((hs₁.2.1 b nm).trans (hx.keeps b o hb))
  have slot : ∀ b o, s.heap.get? b = some o → ∃ sl, hf.get? b = some { o with slots := sl } := fun b o hb => by
    obtain ⟨sl, hs⟩ := hs₁.2.2 b o (hx.keeps b o hb)
    exact ⟨sl, other b _ (hne b o hb) hs⟩
  obtain ⟨T₀, S₀⟩ := kts_turn_at (h := hf) (fs := outer.filterMap (·.frame)) (g := h₀)
    (fun b hb => by obtain ⟨_, o, ho, _⟩ := B.frames.mem hb; exact ⟨o, ho⟩)
    (fun b o e nm => stay b o (S.F.keep b o e) fun hm => by
      rcases List.mem_cons.mp hm with q | q
      · rw [q, hL0] at e; cases e
      · exact nm q)
    (fun b o e hm => slot b o (S.F.keep b o e))
  have tn : Tn A h₀ (ktsHeap hf (outer.filterMap (·.frame)) h₀) := ⟨env, outer, hA, T₀⟩
  have nG : ∀ a, s.heap.get? a = none → (ktsHeap hf (outer.filterMap (·.frame)) h₀).get? a = none := fun a ha => T₀.none_ _ (kts_none S.F.keep ha)
  have hTs : s.heap.get? h₁.objs.size = none := by
    cases q : s.heap.get? h₁.objs.size with
    | none => rfl
    | some o =>
      obtain ⟨sl, hs⟩ := hs₁.2.2 _ o (hx.keeps _ o q)
      exact absurd (Heap.lt_size hs) (Nat.lt_irrefl _)
  have SS : St (ktsHeap hf (outer.filterMap (·.frame)) h₀) L s₀ m ((e, Obj.mapFields (·.setIfInBounds 1 (Value.ref h₁.objs.size)) oe) :: (h₁.objs.size, tbo) :: G.1, G.2) { s with heap := hf, toks := tk } := by
    obtain ⟨slL, hsL⟩ := slot L oL hLg
    refine ⟨⟨⟨_, es, ep, hsL, hLd, rL⟩, S₀, by rw [T₀.size]; exact S.F.above⟩, fun q hq => ?_, fun q hq => ⟨(S.K q hq).1, Nat.lt_of_lt_of_le (S.K q hq).2.1 ht, (S.K q hq).2.2⟩, Nat.lt_of_lt_of_le S.pos ht, ?_⟩
    · rcases List.mem_cons.mp hq with rfl | hq
      · exact ⟨he₃, fun z => hef ((show e = L from z) ▸ .head _), nG _ hx.new⟩
      · rcases List.mem_cons.mp hq with rfl | hq
        · exact ⟨hT₃, (fun z => by rw [(show h₁.objs.size = L from z), hLg] at hTs; cases hTs), nG _ hTs⟩
        · refine ⟨stay _ _ (S.N q hq).1 fun hm => ?_, (S.N q hq).2.1, T₀.none_ _ (S.N q hq).2.2⟩
          rcases List.mem_cons.mp hm with z | z
          · exact (S.N q hq).2.1 z
          · obtain ⟨_, o, ho, _⟩ := B.frames.mem z
            rw [(S.N q hq).2.2] at ho; cases ho
    · obtain ⟨hh, tk0, hs⟩ := S.same
      exact ⟨hf, tk, by rw [hs]⟩
  refine k _ h₁.objs.size _ _ tn (am.turned tn) SS ⟨fun q hq => .tail _ (.tail _ hq), fun _ h => h⟩ (fun q hq => ⟨fun z => hne _ _ (S.N q hq).1 z, fun z => by have := (S.N q hq).1; rw [z, hTs] at this; cases this⟩)
    ⟨_, tbo, t, _, .head _, (Obj.cls_mapFields ..).trans hcls, ?_, .tail _ (.head _), by rw [← hO], ?_, Ne.symm hTe⟩
  · rw [hd₃]; rfl
  · rcases hpl with rfl | ⟨_, _, _, _, _, _, _, rfl⟩ <;> simp

theorem note_new (am : Amb K p loose A env h₀ L d) (S : St h₀ L s₀ m G s) {h' : Heap} {tk : Nat} {e : Addr} {X : String} {ctx : Value} (hx : Fresh s.heap h' e X ctx) (ht : s.toks ≤ tk) {Q : Unit → Shared → Prop}
    (k : ∀ g' tb G' s₂, Tn A h₀ g' → Amb K p loose A env g' L d → St g' L s₀ m G' s₂ → Gr G G' → (∀ q ∈ G.1, q.1 ≠ e ∧ q.1 ≠ tb) → ExcIn G' e tb X ctx (rawInt L) → Q () s₂) :
    wpAny M A (noteFrame (.ref e) env) Q E { s with heap := h', toks := tk } := note_newG rfl am S hx ht k
theorem note_old {e tb : Addr} {X : String} {ctx : Value} (S : St h₀ L s₀ m G s) (hf : env.frame = some L) (h : ExcIn G e tb X ctx (rawInt L)) {Q : Unit → Shared → Prop} (k : Q () s) : wpAny M A (noteFrame (.ref e) env) Q E s := by
  obtain ⟨oe, ot, t, ts, he, hc, hd, ht, hdt, h3, hne⟩ := h
  unfold noteFrame
  simp only [hf]
  refine wpAny_bind (wpAny_field (S.get he) hd (x := .ref tb) rfl ?_)
  rw [if_pos (show (Value.ref tb != Value.none) = true from by simp)]
  refine wpAny_bind (wpAny_field (S.get ht) hdt h3 ?_)
  rw [if_pos (show (rawInt L == rawInt L) = true from by simp [rawInt])]
  exact wpAny_pure k
theorem set_fl {e tb : Addr} {X : String} {ctx fl : Value} (S : St h₀ L s₀ m G s) (h : ExcIn G e tb X ctx fl) (fr : Option Addr) {Q : Unit → Shared → Prop}
    (k : ∀ G' s', St h₀ L s₀ m G' s' → GrB [tb] G G' → ExcIn G' e tb X ctx (fr.elim .none fun f => rawInt f) → Q () s') : wpAny M A (setFlight (.ref e) fr) Q E s := by
  obtain ⟨oe, ot, t, ts, he, hc, hd, ht, hdt, h3, hne⟩ := h
  have hsz : 3 < ts.size := (Array.getElem?_eq_some_iff.mp h3).1
  unfold setFlight
  refine wpAny_bind (wpAny_field (S.get he) hd (x := .ref tb) rfl ?_)
  rw [if_pos (show (Value.ref tb != Value.none) = true from by simp)]
  refine wpAny_setField (S.get ht) hdt hsz ?_
  have hd' := Obj.data_mapFields hdt (·.setIfInBounds 3 (fr.elim Value.none fun f => rawInt f))
  have hT := Heap.get?_update_self (Obj.mapFields (·.setIfInBounds 3 (fr.elim Value.none fun f => rawInt f))) (S.get ht) (Obj.isFreed_of_fields hd')
  refine k _ _ (S.upd1 ht (Heap.SameBut.update ..) hT) outO_gr ⟨oe, _, t, _, outO_gr.a _ he (by simpa using hne), hc, hd, outO_add (.head _), hd', by simp [hsz], hne⟩
theorem came {e tb : Addr} {X : String} {ctx fl : Value} (S : St h₀ L s₀ m G s) (hf : env.frame = some L) (h : ExcIn G e tb X ctx fl) (k : ∀ G' s', St h₀ L s₀ m G' s' → GrB [tb] G G' → ExcIn G' e tb X ctx (rawInt L) → E (.ref e) s') :
    cameBackBy M A env E (.ref e) s := by
  have h' := h
  obtain ⟨oe, ot, t, ts, he, hc, hd, ht, hdt, h3, hne⟩ := h'
  show wpAny M A (do
    if (← field (.ref e) 1) == .none then unsupported "frame.own-activation:exception-without-traceback"
    setFlight (.ref e) env.frame) (fun _ s'' => E (.ref e) s'') E s
  refine wpAny_bind (wpAny_field (S.get he) hd (x := .ref tb) rfl ?_)
  rw [if_neg (show ¬ ((Value.ref tb == Value.none) = true) from by simp)]
  rw [hf]
  first
    | exact set_fl S h (some L) k
    | exact wpAny_bind (wpAny_pure (set_fl S h (some L) k))
theorem pass_on {α : Type} {what : String} {e tb : Addr} {X : String} {ctx fl : Value} (S : St h₀ L s₀ m G s) (hf : env.frame = some L) (h : ExcIn G e tb X ctx fl) {Q : α → Shared → Prop} (k : ∀ G' s', St h₀ L s₀ m G' s' → GrB [tb] G G' → ExcIn G' e tb X ctx (rawInt L) → E (.ref e) s') :
    wpAny M A (PySem.passOn what (.ref e) env : Sem α) Q E s := by
  have h' := h
  obtain ⟨oe, ot, t, ts, he, hc, hd, ht, hdt, h3, hne⟩ := h'
  unfold PySem.passOn
  refine wpAny_bind (wpAny_field (S.get he) hd (x := .ref tb) rfl ?_)
  rw [if_neg (show ¬ ((Value.ref tb == Value.none) = true) from by simp)]
  rw [hf]
  first
    | exact wpAny_bind (set_fl S h (some L) fun G' s' S' g h => wpAny_throw (k G' s' S' g h))
    | exact wpAny_bind (wpAny_pure (wpAny_bind (set_fl S h (some L) fun G' s' S' g h => wpAny_throw (k G' s' S' g h))))
end
end

-- E2
section
open Sem (wp)

theorem entry_unchain : entryFor table "proto.unchain" = some Builtin.«proto.unchain» := entryFor_of_tree (by kernel_rfl)

section
variable {prog : Program} {w : World} {A : Around} {E : Value → Shared → Prop} {s : Shared}
theorem raise_while {α : Type} {cls msg : String} {Q : α → Shared → Prop} (hp : PlainExc cls) {e1 : Addr} {o1 : Obj} {vs1 : Array Value} (hh : A.handled = some (.ref e1)) (h1 : s.heap.get? e1 = some o1) (hd1 : o1.data = .fields vs1) (hc1 : vs1[2]? = some .none)
    (h : ∀ h' tk e, Fresh s.heap h' e cls (.ref e1) → E (.ref e) { s with heap := h', toks := tk }) : wpAny (model prog w) A (raiseErrorWords cls msg : Sem α) Q E s := by
  unfold raiseErrorWords
  refine wpAny_bind (wpAny_mkText (wpAny_bind ?_))
  unfold newExc newTuple
  refine wpAny_bind (wpAny_newObj_type ?_)
  refine wpAny_bind (m := firstArgMember _ _) (wpAny_of_eq (a := Value.none) (by simp only [firstArgMember, hp.first]; rfl) ?_)
  rw [hp.own]
  refine wpAny_newObj_type ?_
  unfold raiseNew
  refine wpAny_bind (wpAny_handled ?_)
  rw [hh]
  dsimp only
  generalize hO1 : ({ cls := .type "tuple", dict := none, data := .seq _ } : Obj) = ot
  generalize hO2 : ({ cls := .type cls, dict := none, data := .fields _ } : Obj) = oe
  have f2 : oe.isFreed = false := by rw [← hO2]; rfl
  have hE2 := Heap.get?_push_size (s.heap.push ot) f2
  have hne : (s.heap.push ot).objs.size ≠ e1 := by
    rw [Heap.size_push]
    exact Nat.ne_of_gt (Nat.lt_succ_of_lt (Heap.lt_size h1))
  have hk : ∀ b o, s.heap.get? b = some o → ((s.heap.push ot).push oe).get? b = some o := fun b o hb => Heap.get?_push_of_some _ (Heap.get?_push_of_some _ hb)
  rw [if_pos (show (Value.ref e1 != Value.ref (s.heap.push ot).objs.size) = true from by rw [bne_iff_ne]; exact fun q => hne (by injection q with q; exact q.symm))]
  refine wpAny_bind ?_
  refine wpAny_holding (wpAny_runValue (codeAny_builtin entry_unchain ?_))
  unfold Builtin.«proto.unchain»
  dsimp only
  refine wpAny_bind (wpAny_field (hk _ _ h1) hd1 hc1 ?_)
  rw [if_pos (show (Value.none == Value.none) = true from rfl)]
  have hd2 : oe.data = .fields #[.ref s.heap.objs.size, .none, .none, .none, .bool false, .none] := by rw [← hO2]; simp
  refine wpAny_pure ?_
  show wpAny _ _ (setField (.ref (s.heap.push ot).objs.size) 2 (.ref e1) >>= _) _ _ _
  refine wpAny_bind (wpAny_setField hE2 hd2 (by simp) (wpAny_throw ?_))
  have hd3 := Obj.data_mapFields hd2 (·.setIfInBounds 2 (Value.ref e1))
  refine h _ _ _ ⟨fun b o hb => (Heap.get?_update_other _ _ (fun q => ?_)).trans (hk b o hb), Heap.get?_none_of_le (by simp), _, .ref s.heap.objs.size, Heap.get?_update_self _ hE2 (Obj.isFreed_of_fields hd3), (Obj.cls_mapFields ..).trans (by rw [← hO2]), ?_⟩
  · have := Heap.lt_size hb
    rw [← q, Heap.size_push] at this
    exact absurd this (Nat.not_lt.mpr (Nat.le_succ _))
  · rw [hd3]; rfl

theorem getItem_out_while {l : Addr} {items : Array Value} {k : Int} {t : Tok} {Q : Value → Shared → Prop} {e1 : Addr} {o1 : Obj} {vs1 : Array Value} (hh : A.handled = some (.ref e1)) (h1 : s.heap.get? e1 = some o1) (hd1 : o1.data = .fields vs1) (hc1 : vs1[2]? = some .none)
    (hl : s.heap.IsList l items) (hlo : (items.size : Int) ≤ k) (hhi : k < 2 ^ 63)
    (hE : ∀ h' tk e, Fresh s.heap h' e "IndexError" (.ref e1) → E (.ref e) { s with heap := h', toks := tk }) :
    wpAny (model prog w) A (getItem (.ref l) (.int k t)) Q E s := by
  obtain ⟨o, ho, hc, ne, hd⟩ := id hl
  unfold getItem
  try with_reducible refine wpAny_holding ?_
  first | refine wpAny_bind (wpAny_pure ?_) | skip
  refine wpAny_bind (wpAny_sequenceKey hl.typeIs (by decide) ?_)
  refine wpAny_bind (wpAny_callSpecial?_slot (name := Str.ofString "__getitem__") hl.typeIs slot_list_getitem
    (wpAny_call_entry slot_list_getitem hl.typeIs entry_list_getitem ?_ (args_list_getitem _ _)))
  show wpAny _ _ (Builtin.List.listSubscript? (.int k t) >>= _) _ _ s
  refine wpAny_bind (wpAny_listSubscript_int (fitsIndex_both (by lia) hhi) ?_)
  obtain ⟨j, rfl⟩ : ∃ j : Nat, k = (j : Int) := ⟨k.toNat, by lia⟩
  have hx : items[j]? = none := Array.getElem?_eq_none (by lia)
  show wpAny _ _ ((seqItemAt l j >>= fun r => pure (r.map (j, ·))) >>= _) _ _ s
  refine wpAny_bind (wpAny_bind (wpAny_seqItemAt ho hd (wpAny_pure ?_)))
  rw [hx]
  have hin : A.in1.handled = some (.ref e1) := hh
  first
    | exact wpAny_bind (wpAny_rule (raise_while plainExc_IndexError hin h1 hd1 hc1 hE))
    | exact wpAny_bind (wpAny_rule (wpAny_bind (raise_while plainExc_IndexError hin h1 hd1 hc1 hE)))
    | exact wpAny_bind (wpAny_bind (wpAny_rule (raise_while plainExc_IndexError hin h1 hd1 hc1 hE)))
    | exact wpAny_rule (raise_while plainExc_IndexError hin h1 hd1 hc1 hE)
end

section
variable {prog : Program} {w : World} {A : Around} {E : Value → Shared → Prop} {h₀ : Heap} {L : Addr} {s₀ s : Shared} {m : NMap} {G : Ctx}
theorem gOut {value slice : Expr} {l : Addr} {vs : List Value} {n : Nat} {k : Int} {u : Tok} {Q : Value → Shared → Prop} (S : St h₀ L s₀ m G s) (hm : (l, lstO vs n) ∈ G.1) (hh : A.handled = none) (hk : (vs.length : Int) ≤ k) (hfit : k < 2 ^ 63)
    (h : ∀ h' tk e, Fresh s.heap h' e "IndexError" .none → s.toks ≤ tk → E (.ref e) { s with heap := h', toks := tk })
    (hs : subscripted slice false (.ref l) (.int k u) = operate [.ref l, .int k u] (getItem (.ref l) (.int k u)) := by with_unfolding_all rfl) :
    wpAny (model prog w) A (subscriptTail value slice (.ref l) (.int k u)) Q E s :=
  wpAny_with_toks (n := s.toks) (Nat.le_refl _) (tail_any (S.isList hm).typeIs slot_list_getitem.lookup (wpAny_getItem_list_out hh (S.isList hm) (.inr (by simpa using hk)) (by lia) hfit fun h' tk e hx ht => h h' tk e (.of hx) ht) hs)
theorem gOutH {value slice : Expr} {l : Addr} {vs : List Value} {n : Nat} {k : Int} {u : Tok} {Q : Value → Shared → Prop} (S : St h₀ L s₀ m G s) (hm : (l, lstO vs n) ∈ G.1) {e1 tb1 : Addr} {X1 : String} {fl : Value} (hh : A.handled = some (.ref e1)) (hx : ExcIn G e1 tb1 X1 .none fl)
    (hk : (vs.length : Int) ≤ k) (hfit : k < 2 ^ 63)
    (h : ∀ h' tk e, Fresh s.heap h' e "IndexError" (.ref e1) → s.toks ≤ tk → E (.ref e) { s with heap := h', toks := tk })
    (hs : subscripted slice false (.ref l) (.int k u) = operate [.ref l, .int k u] (getItem (.ref l) (.int k u)) := by with_unfolding_all rfl) :
    wpAny (model prog w) A (subscriptTail value slice (.ref l) (.int k u)) Q E s := by
  obtain ⟨oe, ot, t, ts, he, hc, hd, _⟩ := hx
  exact wpAny_with_toks (n := s.toks) (Nat.le_refl _) (tail_any (S.isList hm).typeIs slot_list_getitem.lookup (getItem_out_while hh (S.get he) hd rfl (S.isList hm) (by simpa using hk) hfit fun h' tk e hx ht => h h' tk e hx ht) hs)
end

section
variable {K : Frag} {p : Program} {loose : List Str} {prog : Program} {w : World} {A : Around} {E : Value → Shared → Prop} {h₀ : Heap} {L : Addr} {d : Nat} {s₀ s : Shared} {m : NMap} {G : Ctx} {env : Env}
  {cn : Str} {cs : Scope} {a : Addr} {ccd : Value} {cl : List (Str × Addr)}
theorem handle_ {e tb : Addr} {X : String} {ctx fl : Value} (am : Amb K p loose A (envX cn cs L a ccd cl) h₀ L d) (S : St h₀ L s₀ m G s) (hx : ExcIn G e tb X ctx fl) {x : Str} {np pos : Pos} {b₀ : Stmt} {suite : List Stmt} {rest : List ExceptHandler} {Q : Flow → Shared → Prop}
    (ex : nsIn K mainGlobals x = some none) (hv : bootBuiltins x = some (.type X))
    (hexc : isSubtype (.type X) (.type "BaseException") = pure true) (hnt : isSubtype (.type ((Manifest.find? X).elim "type" fun y => y.metatype)) (.type "tuple") = pure false) (hsub : isSubtype (.type X) (.type X) = pure true)
    (k : ∀ G' s', St h₀ L s₀ m G' s' → GrB [tb] G G' → wpAny (model prog w) (A.mark (some (.ref e))) (execs (b₀ :: suite) (envX cn cs L a ccd cl)) Q noE s')
    (hn' : x ≠ "__name__" := by decide) (hk : cs.kind = .function := by rfl) (hkx : (envX cn cs L a ccd cl).kindOf x = some .globalImplicit := by rfl) (hb : (x == ("__debug__" : Str)) = false := by decide) :
    wpAny (model prog w) A (handleBy (.ref e) (envX cn cs L a ccd cl) (.ExceptHandler (some (.Name x np)) none (b₀ :: suite) pos :: rest)) Q E s := by
  obtain ⟨mean, mg, mb, T⟩ := am.T
  have hx' := hx
  obtain ⟨oe, ot, t, ts, he, hc, hd, _⟩ := hx'
  refine wpAny_handleBy_builtin (X := X) (T := X) (b := true) hexc hnt hsub (nameX_B S.F am.X (topRead_of T) ex hv hn' ⟨rfl, ⟨oe, S.get he, hc⟩, ?_⟩ hk hkx hb)
  rw [if_pos rfl]
  exact set_fl S hx none fun G' s' S' g h => wpAny_of_noE (k G' s' S' g)
end
end

-- E3
section
open AutoSeq1 (wpAny_loadPart')
open MeetsSeq MeetsSeq2 MeetsSeq3 SeqRoads2

theorem remove_loopAt (l : Addr) (items : Array Value) (n : Nat) (x : Value) (e : Value → Bool) (j : Nat) (hj : j < items.size) (hit : e items[j] = true) (k : Nat) (hs1 : items.size ≤ sizeLine) :
    ∀ i : Nat, j - i = k → i ≤ j → (∀ m (hm : m < items.size), i ≤ m → m < j → e items[m] = false) → Meets (Builtin.«list.remove.loop» ⟨[.ref l, x, rawInt i], []⟩)
      (fun A R s => s.heap.get? l = some { cls := .type "list", dict := none, data := .seq items n, slots := #[] } ∧ (∀ y, y ∈ items → EqAt A.in1 s y x (e y)) ∧ R (.ok (.ret .none)) { s with heap := s.heap.update l (Obj.mapSeq fun xs => xs.eraseIdxIfInBounds j) }) := by
  induction k with
  | zero =>
    intro i hk hij hno prog w A R s h
    obtain ⟨hp, g, d, tk, os⟩ := s; obtain ⟨hl, he, h⟩ := h
    have hij' : i = j := by lia
    subst hij'
    wp_walk using wpAny_loadPart' hl
    have hi : items[((i : Nat) : Int).toNat]? = some items[i] := by simp [hj]
    rw [hi]
    refine wpAny_bind (he _ (Array.getElem_mem hj) prog w _ _ ?_)
    rw [hit]
    have hz' : (items.eraseIdxIfInBounds i).size ≤ sizeLine + 1 := Nat.le_trans (size_erased items _) (Nat.le_succ_of_le hs1)
    wp_walk using (wpAny_updateSeq hl rfl (hz := hs1) (_hz' := hz')), wpAny_loadPart' hl
    simpa using h
  | succ k ih =>
    intro i hk hij hno prog w A R s h
    obtain ⟨hp, g, d, tk, os⟩ := s; obtain ⟨hl, he, h⟩ := h
    have hlt : i < items.size := by lia
    wp_walk using wpAny_loadPart' hl
    have hi : items[((i : Nat) : Int).toNat]? = some items[i] := by simp [hlt]
    have hc : ((i : Int) + 1) = ((i + 1 : Nat) : Int) := by push_cast; rfl
    rw [hi]
    refine wpAny_bind (he _ (Array.getElem_mem hlt) prog w _ _ ?_)
    rw [hno i hlt (Nat.le_refl _) (by lia)]
    wp_walk
    rw [hc]
    exact ⟨plainId_quiet plain_remove_loop _, codeAny_builtin entry_remove_loop (by
      rw [Around.under_plainId plain_remove_loop _]
      exact ih (i + 1) (by lia) (by lia) (fun m hm h1 h2 => hno m hm (by lia) h2) prog w A R _ ⟨hl, he, h⟩)⟩
theorem list_removeAt (l : Addr) (items : Array Value) (n : Nat) (x : Value) (e : Value → Bool) (j : Nat) (hj : j < items.size)
    (hit : e items[j] = true) (hno : ∀ m (hm : m < items.size), m < j → e items[m] = false) (hs1 : items.size ≤ sizeLine) :
    Meets (Builtin.«list.remove» ⟨[.ref l, x], []⟩)
      (fun A R s => s.heap.get? l = some { cls := .type "list", dict := none, data := .seq items n, slots := #[] } ∧ (∀ y, y ∈ items → EqAt A.in1 s y x (e y)) ∧ R (.ok (.ret .none)) { s with heap := s.heap.update l (Obj.mapSeq fun xs => xs.eraseIdxIfInBounds j) }) := by
  intro prog w A R s h
  obtain ⟨hp, g, d, tk, os⟩ := s; obtain ⟨hl, he, h⟩ := h
  wp_walk using wpAny_loadPart' hl
  exact ⟨plainId_quiet plain_remove_loop _, codeAny_builtin entry_remove_loop (by
    rw [Around.under_plainId plain_remove_loop _]
    exact remove_loopAt l items n x e j hj hit _ hs1 0 rfl (Nat.zero_le _) (fun m hm _ h2 => hno m hm h2) prog w A R _ ⟨hl, he, h⟩)⟩
theorem remove_none_loopAt (l : Addr) (items : Array Value) (n : Nat) (x : Value) (e : Value → Bool) (hno : ∀ m (hm : m < items.size), e items[m] = false) (k : Nat) :
    ∀ i : Nat, items.size - i = k → Meets (Builtin.«list.remove.loop» ⟨[.ref l, x, rawInt i], []⟩)
      (fun A R s => s.heap.get? l = some { cls := .type "list", dict := none, data := .seq items n, slots := #[] } ∧ (∀ y, y ∈ items → EqAt A.in1 s y x (e y)) ∧ raisesNew "ValueError" A R s) := by
  induction k with
  | zero =>
    intro i hk prog w A R s h
    obtain ⟨hp, g, d, tk, os⟩ := s; obtain ⟨hl, he, h⟩ := h
    wp_walk using wpAny_loadPart' hl
    have hi : items[((i : Nat) : Int).toNat]? = none := by simp; lia
    rw [hi]
    wp_walk
    exact_raiseError plainExc_ValueError h.1 h.2
  | succ k ih =>
    intro i hk prog w A R s h
    obtain ⟨hp, g, d, tk, os⟩ := s; obtain ⟨hl, he, h⟩ := h
    have hlt : i < items.size := by lia
    wp_walk using wpAny_loadPart' hl
    have hi : items[((i : Nat) : Int).toNat]? = some items[i] := by simp [hlt]
    have hc : ((i : Int) + 1) = ((i + 1 : Nat) : Int) := by push_cast; rfl
    rw [hi]
    refine wpAny_bind (he _ (Array.getElem_mem hlt) prog w _ _ ?_)
    rw [hno i hlt]
    wp_walk
    rw [hc]
    exact ⟨plainId_quiet plain_remove_loop _, codeAny_builtin entry_remove_loop (by
      rw [Around.under_plainId plain_remove_loop _]
      exact ih (i + 1) (by lia) prog w A R _ ⟨hl, he, h⟩)⟩
theorem list_remove_noneAt (l : Addr) (items : Array Value) (n : Nat) (x : Value) (e : Value → Bool) (hno : ∀ m (hm : m < items.size), e items[m] = false) :
    Meets (Builtin.«list.remove» ⟨[.ref l, x], []⟩)
      (fun A R s => s.heap.get? l = some { cls := .type "list", dict := none, data := .seq items n, slots := #[] } ∧ (∀ y, y ∈ items → EqAt A.in1 s y x (e y)) ∧ raisesNew "ValueError" A R s) := by
  intro prog w A R s h
  obtain ⟨hp, g, d, tk, os⟩ := s; obtain ⟨hl, he, h⟩ := h
  wp_walk using wpAny_loadPart' hl
  exact ⟨plainId_quiet plain_remove_loop _, codeAny_builtin entry_remove_loop (by
    rw [Around.under_plainId plain_remove_loop _]
    exact remove_none_loopAt l items n x e hno _ 0 rfl prog w A R _ ⟨hl, he, h⟩)⟩

theorem All2.eraseIdx {α β : Type} {R : α → β → Prop} {xs : List α} {ys : List β} (h : All2 R xs ys) (i : Nat) : All2 R (xs.eraseIdx i) (ys.eraseIdx i) := by
  induction h generalizing i with
  | nil => exact .nil
  | cons a r ih => cases i with
    | zero => exact r
    | succ i => exact .cons a (ih i)

section
variable {prog : Program} {w : World} {A : Around} {E : Value → Shared → Prop} {h₀ : Heap} {L : Addr} {s₀ s : Shared} {m : NMap} {G : Ctx} {fl : Bool} {Q : Value → Shared → Prop}
theorem rm_yes (S : St h₀ L s₀ m G s) (nb : NoneBooked s.heap) (hu : A.units + 1 < cLine) {l : Addr} {vs : List Value} {n : Nat} {ds : List (List Int)} (hl : (l, lstO vs n) ∈ G.1) (hd : All2 (TV fl G) vs ds) {u : Value} {e : List Int} (he : TV fl G u e) (hm : e ∈ ds) (hsz : ds.length ≤ 1000)
    (h : ∀ G' s' us n', St h₀ L s₀ m G' s' → GrB [l] G G' → (l, lstO us n') ∈ G'.1 → All2 (TV fl G) us (ds.erase e) → Q .none s') : wpAny (model prog w) A (call (.builtin "list.remove") [.ref l, u]) Q E s := by
  have hj : ds.idxOf e < ds.length := List.idxOf_lt_length_iff.mpr hm
  have hj' : ds.idxOf e < vs.length := by rw [hd.length]; exact hj
  have at' : ∀ (i : Nat) (h1 : i < vs.length) (h2 : i < ds.length), hits vs ds e vs[i] = decide (ds[i] = e) := fun i h1 h2 => hits_eq S hd (hd.get i h1 h2) (List.getElem_mem h1)
  have hz : vs.toArray.size ≤ sizeLine := by rw [List.size_toArray, hd.length]; exact Nat.le_trans hsz (by rw [sizeLine_eq]; decide)
  have hob : ∃ n', (Obj.mapSeq fun xs => xs.eraseIdxIfInBounds (ds.idxOf e)) (lstO vs n) = lstO (vs.eraseIdx (ds.idxOf e)) n' := by
    refine ⟨n + 1, ?_⟩
    simp [Obj.mapSeq, Array.eraseIdxIfInBounds, hj']
    rw [List.length_eraseIdx_of_lt hj']
    lia
  obtain ⟨n', hob⟩ := hob
  refine call_meets PySem.F.slot_list_remove ⟨_, S.get hl, rfl⟩ PySem.F.entry_list_remove (PySem.F.args_list_remove_2 _ _)
    (list_removeAt l vs.toArray n u (hits vs ds e) (ds.idxOf e) (by simpa using hj') ?_ ?_ hz)
    ⟨S.get hl, fun y hy => hits_at S nb hu hd he y (by simpa using hy), ?_⟩
  · show hits vs ds e vs[ds.idxOf e] = true
    rw [at' _ hj' hj]; simp
  · intro k hk hlt
    have hk' : k < vs.length := by simpa using hk
    show hits vs ds e vs[k] = false
    rw [at' _ hk' (by rw [← hd.length]; exact hk')]
    exact decide_eq_false (by
      have := List.not_of_lt_findIdx (p := fun x => x == e) (xs := ds) (i := k) hlt
      simpa using this)
  · have ho : (s.heap.update l (Obj.mapSeq fun xs => xs.eraseIdxIfInBounds (ds.idxOf e))).get? l = some (lstO (vs.eraseIdx (ds.idxOf e)) n') := by
      rw [Heap.get?_update_self _ (S.get hl) (by rw [hob]; rfl), hob]
    refine h _ _ _ n' (S.upd1 hl (Heap.SameBut.update ..) ho) outO_gr (outO_add (.head _)) ?_
    rw [List.erase_eq_eraseIdx_of_idxOf rfl]
    exact hd.eraseIdx _
theorem rm_no (S : St h₀ L s₀ m G s) (nb : NoneBooked s.heap) (hu : A.units + 1 < cLine) (hh : A.handled = none) {l : Addr} {vs : List Value} {n : Nat} {ds : List (List Int)} (hl : (l, lstO vs n) ∈ G.1) (hd : All2 (TV fl G) vs ds) {u : Value} {e : List Int} (he : TV fl G u e) (hm : e ∉ ds)
    (h : ∀ h' tk e', Fresh s.heap h' e' "ValueError" .none → s.toks ≤ tk → E (.ref e') { s with heap := h', toks := tk }) : wpAny (model prog w) A (call (.builtin "list.remove") [.ref l, u]) Q E s := by
  have at' : ∀ (i : Nat) (h1 : i < vs.length) (h2 : i < ds.length), hits vs ds e vs[i] = decide (ds[i] = e) := fun i h1 h2 => hits_eq S hd (hd.get i h1 h2) (List.getElem_mem h1)
  refine wpAny_with_toks (n := s.toks) (Nat.le_refl _) (call_meets PySem.F.slot_list_remove ⟨_, S.get hl, rfl⟩ PySem.F.entry_list_remove (PySem.F.args_list_remove_2 _ _)
    (list_remove_noneAt l vs.toArray n u (hits vs ds e) ?_)
    ⟨S.get hl, fun y hy => hits_at S nb hu hd he y (by simpa using hy), hh, fun h' tk e' hx ht => h h' tk e' (.of hx) ht⟩)
  intro k hk
  have hk' : k < vs.length := by simpa using hk
  have hk2 : k < ds.length := by rw [← hd.length]; exact hk'
  show hits vs ds e vs[k] = false
  rw [at' _ hk' hk2]
  exact decide_eq_false fun q => hm (q ▸ List.getElem_mem hk2)
theorem popL (S : St h₀ L s₀ m G s) {l : Addr} {vs : List Value} {x : Value} {n : Nat} (hl : (l, lstO (vs ++ [x]) n) ∈ G.1) (hsz : vs.length ≤ 999)
    (h : ∀ G' s' n', St h₀ L s₀ m G' s' → GrB [l] G G' → (l, lstO vs n') ∈ G'.1 → Q x s') : wpAny (model prog w) A (call (.builtin "list.pop") [.ref l]) Q E s := by
  have hz : (vs ++ [x]).toArray.size ≤ sizeLine := by rw [List.size_toArray, List.length_append]; exact Nat.le_trans (Nat.succ_le_succ hsz) (by rw [sizeLine_eq]; decide)
  have hs : (vs ++ [x]).toArray.size - 1 = vs.length := by simp
  have hob : ∃ n', (Obj.mapSeq fun xs => xs.eraseIdxIfInBounds ((vs ++ [x]).toArray.size - 1)) (lstO (vs ++ [x]) n) = lstO vs n' := by
    rw [hs]
    refine ⟨n + 1, ?_⟩
    have e1 : (vs ++ [x]).eraseIdx vs.length = vs := by rw [List.eraseIdx_append_of_length_le (Nat.le_refl _)]; simp
    simp [Obj.mapSeq, Array.eraseIdxIfInBounds, e1]
  obtain ⟨n', hob⟩ := hob
  refine call_meets PySem.F.slot_list_pop ⟨_, S.get hl, rfl⟩ PySem.F.entry_list_pop (PySem.F.args_list_pop_1 _) (MeetsSeq.list_pop_last l (vs ++ [x]).toArray n x (by rw [hs]; simp) hz) ⟨S.get hl, ?_⟩
  have ho : (s.heap.update l (Obj.mapSeq fun xs => xs.eraseIdxIfInBounds ((vs ++ [x]).toArray.size - 1))).get? l = some (lstO vs n') := by
    rw [Heap.get?_update_self _ (S.get hl) (by rw [hob]; rfl), hob]
  exact h _ _ n' (S.upd1 hl (Heap.SameBut.update ..) ho) outO_gr (outO_add (.head _))
end
end

-- S1
section

def runT {α : Type} (lt : Nat → Nat → Bool) : KasT α → α
  | .ret a => a
  | .ask i j k => runT lt (k (lt i j))
theorem runT_bind {α β : Type} (lt : Nat → Nat → Bool) (f : α → KasT β) : ∀ t : KasT α, runT lt (t.bind f) = runT lt (f (runT lt t))
  | .ret _ => rfl
  | .ask i j k => runT_bind lt f (k (lt i j))

section
variable (le : Nat → Nat → Prop) (lt : Nat → Nat → Bool)
structure Ord : Prop where
  tot : ∀ i j, le i j ∨ le j i
  tr : ∀ i j k, le i j → le j k → le i k
  lt_iff : ∀ i j, lt i j = true ↔ ¬ le j i
end
section
variable {le : Nat → Nat → Prop} {lt : Nat → Nat → Bool}
theorem Ord.refl (o : Ord le lt) (i : Nat) : le i i := (o.tot i i).elim id id
theorem Ord.of_lt (o : Ord le lt) {i j : Nat} (h : lt i j = true) : le i j := (o.tot i j).resolve_right ((o.lt_iff i j).mp h)
theorem Ord.of_not (o : Ord le lt) {i j : Nat} (h : lt i j = false) : le j i := by
  cases Classical.em (le j i) with
  | inl q => exact q
  | inr q => rw [(o.lt_iff i j).mpr q] at h; cases h

abbrev at0 (p : Array Nat) (i : Nat) : Nat := p.getD i 0
theorem at0_eq {p q : Array Nat} {i j : Nat} (h : p[i]? = q[j]?) : at0 p i = at0 q j := by
  unfold at0; rw [Array.getD_eq_getD_getElem?, Array.getD_eq_getD_getElem?, h]
theorem at0_rev {p : Array Nat} {i j : Nat} (hj : j ≤ p.size) (k : Nat) : at0 (kas_rev p i j) k = if i ≤ k ∧ k < j then at0 p (i + j - 1 - k) else at0 p k := by
  unfold kas_rev
  by_cases h : i ≤ k ∧ k < j
  · rw [if_pos h]; exact at0_eq (by rw [getElem?_mirror_all hj, if_pos h])
  · rw [if_neg h]; exact at0_eq (by rw [getElem?_mirror_all hj, if_neg h])
theorem rev_size (p : Array Nat) (i j : Nat) : (kas_rev p i j).size = p.size := mirror_size _ _ _ _
theorem rev_perm (p : Array Nat) (i j : Nat) : (kas_rev p i j).Perm p := mirror_perm _ _ _ _

def Up (le : Nat → Nat → Prop) (p : Array Nat) (n : Nat) : Prop := ∀ i, i + 1 < n → le (at0 p i) (at0 p (i + 1))
def Dn (le : Nat → Nat → Prop) (p : Array Nat) (n : Nat) : Prop := ∀ i, i + 1 < n → le (at0 p (i + 1)) (at0 p i)
theorem Up.far (o : Ord le lt) {p : Array Nat} {n : Nat} (h : Up le p n) {i : Nat} : ∀ {j : Nat}, i ≤ j → j < n → le (at0 p i) (at0 p j)
  | 0, hij, _ => by have : i = 0 := by lia
                    subst this; exact o.refl _
  | j + 1, hij, hj => by
    by_cases e : i = j + 1
    · subst e; exact o.refl _
    · exact o.tr _ _ _ (Up.far o h (i := i) (j := j) (by lia) (by lia)) (h j hj)
theorem Dn.far (o : Ord le lt) {p : Array Nat} {n : Nat} (h : Dn le p n) {i : Nat} : ∀ {j : Nat}, i ≤ j → j < n → le (at0 p j) (at0 p i)
  | 0, hij, _ => by have : i = 0 := by lia
                    subst this; exact o.refl _
  | j + 1, hij, hj => by
    by_cases e : i = j + 1
    · subst e; exact o.refl _
    · exact o.tr _ _ _ (h j hj) (Dn.far o h (i := i) (j := j) (by lia) (by lia))
theorem Dn.rev (o : Ord le lt) {p : Array Nat} {n : Nat} (h : Dn le p n) (hn : n ≤ p.size) : Up le (kas_rev p 0 n) n := fun i hi => by
  rw [at0_rev hn, at0_rev hn, if_pos ⟨Nat.zero_le _, by lia⟩, if_pos ⟨Nat.zero_le _, by lia⟩]
  exact h.far o (by lia) (by lia)

structure AscR (le : Nat → Nat → Prop) (lt : Nat → Nat → Bool) (p : Array Nat) (f n r : Nat) : Prop where
  lo : n ≤ r
  hi : r ≤ n + f
  up : Up le p r
  stop : r < n + f → lt (at0 p r) (at0 p (r - 1)) = true
theorem asc_run (o : Ord le lt) (p : Array Nat) : ∀ (f n : Nat), 1 ≤ n → Up le p n → AscR le lt p f n (runT lt (kas_asc p f n))
  | 0, n, _, h => ⟨Nat.le_refl _, Nat.le_refl _, h, fun q => absurd q (Nat.lt_irrefl _)⟩
  | f + 1, n, h1, h => by
    show AscR le lt p (f + 1) n (runT lt (if lt (at0 p n) (at0 p (n - 1)) = true then .ret n else kas_asc p f (n + 1)))
    cases hc : lt (at0 p n) (at0 p (n - 1)) with
    | true => rw [if_pos rfl]; exact ⟨Nat.le_refl _, Nat.le_add_right _ _, h, fun _ => hc⟩
    | false =>
      rw [if_neg (by decide)]
      have hu : Up le p (n + 1) := fun i hi => by
        by_cases e : i + 1 = n
        · have := o.of_not hc
          have e2 : n - 1 = i := by lia
          rw [e2, ← e] at this; exact this
        · exact h i (by lia)
      obtain ⟨a, b, c, d⟩ := asc_run o p f (n + 1) (by lia) hu
      exact ⟨by lia, by lia, c, fun q => d (by lia)⟩

def Alike (le : Nat → Nat → Prop) (p : Array Nat) (n q : Nat) : Prop := ∀ i, n - (q + 1) ≤ i → i < n → le (at0 p i) (at0 p (n - 1)) ∧ le (at0 p (n - 1)) (at0 p i)
theorem Alike.dn (o : Ord le lt) {p : Array Nat} {n q : Nat} (h : Dn le p n) (hq : Alike le p n q) (hn : n ≤ p.size) (h1 : q + 1 ≤ n) : Dn le (kas_rev p (n - (q + 1)) n) n := fun i hi => by
  have key : ∀ k, k < n → le (at0 (kas_rev p (n - (q + 1)) n) k) (at0 p k) ∧ le (at0 p k) (at0 (kas_rev p (n - (q + 1)) n) k) := fun k hk => by
    rw [at0_rev hn]
    by_cases e : n - (q + 1) ≤ k ∧ k < n
    · rw [if_pos e]
      obtain ⟨a, b⟩ := hq k e.1 e.2
      obtain ⟨c, d⟩ := hq (n - (q + 1) + n - 1 - k) (by lia) (by lia)
      exact ⟨o.tr _ _ _ c b, o.tr _ _ _ a d⟩
    · rw [if_neg e]; exact ⟨o.refl _, o.refl _⟩
  exact o.tr _ _ _ (key (i + 1) hi).1 (o.tr _ _ _ (h i hi) (key i (by lia)).2)
theorem Alike.zero (o : Ord le lt) {p : Array Nat} {n : Nat} : Alike le p (n + 1) 0 := fun i h2 h3 => by
  have e : i = n := by lia
  subst e
  exact ⟨o.refl _, o.refl _⟩
structure DescR (le : Nat → Nat → Prop) (p0 : Array Nat) (n f : Nat) (r : Array Nat × Nat × Nat) : Prop where
  perm : r.1.Perm p0
  lo : n ≤ r.2.1
  hi : r.2.1 ≤ n + f
  dn : Dn le r.1 r.2.1
  al : Alike le r.1 r.2.1 r.2.2
  q1 : r.2.2 + 1 ≤ r.2.1
theorem desc_run (o : Ord le lt) : ∀ (f : Nat) (p : Array Nat) (n q : Nat), n + f ≤ p.size → q + 1 ≤ n → Dn le p n → Alike le p n q → DescR le p n f (runT lt (kas_desc f p n q))
  | 0, p, n, q, _, h1, h, ha => ⟨Array.Perm.refl _, Nat.le_refl _, Nat.le_refl _, h, ha, h1⟩
  | f + 1, p, n, q, hsz, h1, h, ha => by
    show DescR le p n (f + 1) (runT lt (if lt (at0 p n) (at0 p (n - 1)) = true then (if q > 0 then kas_desc f (kas_rev p (n - (q + 1)) n) (n + 1) 0 else kas_desc f p (n + 1) 0)
      else .ask (at0 p (n - 1)) (at0 p n) fun d => if d = true then .ret (p, n, q) else kas_desc f p (n + 1) (q + 1)))
    cases hc : lt (at0 p n) (at0 p (n - 1)) with
    | true =>
      rw [if_pos rfl]
      have hle := o.of_lt hc
      by_cases hq : q > 0
      · rw [if_pos hq]
        have hd := ha.dn o h (by lia) h1
        have hd' : Dn le (kas_rev p (n - (q + 1)) n) (n + 1) := fun i hi => by
          by_cases e : i + 1 = n
          · rw [e, at0_rev (by lia), if_neg (by lia), at0_rev (by lia), if_pos (by lia)]
            have e2 : n - (q + 1) + n - 1 - i = n - (q + 1) := by lia
            rw [e2]
            exact o.tr _ _ _ hle (ha (n - (q + 1)) (by lia) (by lia)).2
          · exact hd i (by lia)
        have r := desc_run o f (kas_rev p (n - (q + 1)) n) (n + 1) 0 (by rw [rev_size]; lia) (by lia) hd' (Alike.zero o)
        exact ⟨r.perm.trans (rev_perm _ _ _), by have := r.lo; lia, by have := r.hi; lia, r.dn, r.al, r.q1⟩
      · rw [if_neg hq]
        have hd' : Dn le p (n + 1) := fun i hi => by
          by_cases e : i + 1 = n
          · have e2 : n - 1 = i := by lia
            rw [e2, ← e] at hle; exact hle
          · exact h i (by lia)
        have r := desc_run o f p (n + 1) 0 (by lia) (by lia) hd' (Alike.zero o)
        exact ⟨r.perm, by have := r.lo; lia, by have := r.hi; lia, r.dn, r.al, r.q1⟩
    | false =>
      rw [if_neg (by decide)]
      show DescR le p n (f + 1) (runT lt (if lt (at0 p (n - 1)) (at0 p n) = true then .ret (p, n, q) else kas_desc f p (n + 1) (q + 1)))
      cases hd : lt (at0 p (n - 1)) (at0 p n) with
      | true => rw [if_pos rfl]; exact ⟨Array.Perm.refl _, Nat.le_refl _, Nat.le_add_right _ _, h, ha, h1⟩
      | false =>
        rw [if_neg (by decide)]
        have x := o.of_not hc
        have y := o.of_not hd
        have hd' : Dn le p (n + 1) := fun i hi => by
          by_cases e : i + 1 = n
          · have e2 : n - 1 = i := by lia
            rw [e2, ← e] at y; exact y
          · exact h i (by lia)
        have ha' : Alike le p (n + 1) (q + 1) := fun i h2 h3 => by
          show le (at0 p i) (at0 p n) ∧ le (at0 p n) (at0 p i)
          by_cases e : i = n
          · subst e; exact ⟨o.refl _, o.refl _⟩
          · obtain ⟨a, b⟩ := ha i (by lia) (by lia)
            exact ⟨o.tr _ _ _ a x, o.tr _ _ _ y b⟩
        have r := desc_run o f p (n + 1) (q + 1) (by lia) (by lia) hd' ha'
        exact ⟨r.perm, by have := r.lo; lia, by have := r.hi; lia, r.dn, r.al, r.q1⟩

structure RunR (le : Nat → Nat → Prop) (p0 : Array Nat) (r : Nat × Array Nat) : Prop where
  perm : r.2.Perm p0
  hi : r.1 ≤ p0.size
  lo : 1 ≤ r.1
  up : Up le r.2 r.1
theorem tail3_run (o : Ord le lt) {p : Array Nat} {n nrem : Nat} (h1 : 1 ≤ n) (hn : n ≤ nrem) (hr : nrem = p.size) (h : Dn le p n) : RunR le p (runT lt (kas_tail3 n nrem p)) := by
  unfold kas_tail3
  rw [runT_bind]
  obtain ⟨a, b, c, _⟩ := asc_run o (kas_rev p 0 n) (nrem - n) n h1 (h.rev o (by lia))
  exact ⟨rev_perm _ _ _, by show runT lt (kas_asc (kas_rev p 0 n) (nrem - n) n) ≤ _; lia, by show 1 ≤ runT lt (kas_asc (kas_rev p 0 n) (nrem - n) n); lia, c⟩
theorem descPart_run (o : Ord le lt) {p : Array Nat} {n nrem : Nat} (h1 : 1 ≤ n) (hn : n < nrem) (hr : nrem = p.size) (h : Dn le p (n + 1)) : RunR le p (runT lt (kas_descPart n nrem p)) := by
  unfold kas_descPart
  rw [runT_bind]
  have r := desc_run o (nrem - (n + 1)) p (n + 1) 0 (by lia) (by lia) h (Alike.zero o)
  generalize runT lt (kas_desc (nrem - (n + 1)) p (n + 1) 0) = x at r
  obtain ⟨p', n', q'⟩ := x
  obtain ⟨r1, r2, r3, r4, r5, r6⟩ := r
  have hs : p'.size = p.size := r1.size_eq
  dsimp only at *
  by_cases hq : q' > 0
  · rw [if_pos hq]
    have t := tail3_run (nrem := nrem) o (by lia) (by lia) (by rw [rev_size]; lia) (r5.dn o r4 (by lia) r6)
    exact ⟨t.perm.trans ((rev_perm _ _ _).trans r1), by have := t.hi; rw [rev_size] at this; lia, t.lo, t.up⟩
  · rw [if_neg hq]
    have t := tail3_run (nrem := nrem) o (by lia) (by lia) (by lia) r4
    exact ⟨t.perm.trans r1, by have := t.hi; lia, t.lo, t.up⟩

theorem count_run (o : Ord le lt) {p : Array Nat} {nrem : Nat} (h1 : 1 ≤ nrem) (hr : nrem = p.size) : RunR le p (runT lt (kas_count nrem p)) := by
  unfold kas_count
  rw [runT_bind]
  obtain ⟨a, b, c, st⟩ := asc_run o p (nrem - 1) 1 (Nat.le_refl _) (fun i hi => by lia)
  generalize runT lt (kas_asc p (nrem - 1) 1) = n at a b c st
  by_cases e : (n == nrem) = true
  · rw [if_pos e]
    exact ⟨Array.Perm.refl _, by show n ≤ _; lia, a, c⟩
  · rw [if_neg e]
    have hne : n ≠ nrem := by simpa using e
    by_cases hn : n > 1
    · rw [if_pos hn]
      show RunR le p (runT lt (if lt (at0 p 0) (at0 p (n - 1)) = true then .ret (n, p) else kas_descPart n nrem (kas_rev p 0 n)))
      cases hc : lt (at0 p 0) (at0 p (n - 1)) with
      | true => rw [if_pos rfl]; exact ⟨Array.Perm.refl _, by show n ≤ _; lia, a, c⟩
      | false =>
        rw [if_neg (by decide)]
        have eq0 : ∀ k, k < n → le (at0 p k) (at0 p 0) ∧ le (at0 p 0) (at0 p k) := fun k hk =>
          ⟨o.tr _ _ _ (c.far o (i := k) (j := n - 1) (by lia) (by lia)) (o.of_not hc), c.far o (Nat.zero_le _) hk⟩
        have hst := o.of_lt (st (by lia))
        have hd : Dn le (kas_rev p 0 n) (n + 1) := fun i hi => by
          by_cases e2 : i + 1 = n
          · rw [e2, at0_rev (by lia), if_neg (by lia), at0_rev (by lia), if_pos (by lia)]
            exact o.tr _ _ _ hst (o.tr _ _ _ (eq0 (n - 1) (by lia)).1 (eq0 (0 + n - 1 - i) (by lia)).2)
          · rw [at0_rev (by lia), if_pos (by lia), at0_rev (by lia), if_pos (by lia)]
            exact o.tr _ _ _ (eq0 _ (by lia)).1 (eq0 _ (by lia)).2
        have t := descPart_run (nrem := nrem) o (p := kas_rev p 0 n) (n := n) (by lia) (by lia) (by rw [rev_size]; exact hr) hd
        exact ⟨t.perm.trans (rev_perm _ _ _), by have := t.hi; rw [rev_size] at this; exact this, t.lo, t.up⟩
    · rw [if_neg hn]
      have e1 : n = 1 := by lia
      subst e1
      have hst := o.of_lt (st (by lia))
      exact descPart_run o (Nat.le_refl _) (by lia) hr fun i hi => by
        have : i = 0 := by lia
        subst this; exact hst

theorem place_run (o : Ord le lt) (p : Array Nat) (k : Nat) : ∀ (f l r : Nat), l ≤ r → r ≤ k → r - l ≤ f → (∀ i, i < l → le (at0 p i) (at0 p k)) → (∀ i, r ≤ i → i < k → le (at0 p k) (at0 p i)) → Up le p k →
    runT lt (kas_place p k f l r) ≤ k ∧ (∀ i, i < runT lt (kas_place p k f l r) → le (at0 p i) (at0 p k)) ∧ (∀ i, runT lt (kas_place p k f l r) ≤ i → i < k → le (at0 p k) (at0 p i))
  | 0, l, r, h1, h2, h3, h4, h5, _ => by
    have e : l = r := by lia
    subst e
    exact ⟨h2, h4, h5⟩
  | f + 1, l, r, h1, h2, h3, h4, h5, hu => by
    unfold kas_place
    by_cases e : l ≥ r
    · rw [if_pos e]
      have e2 : l = r := by lia
      subst e2
      exact ⟨h2, h4, h5⟩
    · rw [if_neg e]
      generalize hm : (l + r) / 2 = mid
      have m1 : l ≤ mid := by lia
      have m2 : mid < r := by lia
      show runT lt (if lt (at0 p k) (at0 p mid) = true then kas_place p k f l mid else kas_place p k f (mid + 1) r) ≤ k ∧
        (∀ i, i < runT lt (if lt (at0 p k) (at0 p mid) = true then kas_place p k f l mid else kas_place p k f (mid + 1) r) → le (at0 p i) (at0 p k)) ∧
        (∀ i, runT lt (if lt (at0 p k) (at0 p mid) = true then kas_place p k f l mid else kas_place p k f (mid + 1) r) ≤ i → i < k → le (at0 p k) (at0 p i))
      cases hc : lt (at0 p k) (at0 p mid) with
      | true =>
        rw [if_pos rfl]
        exact place_run o p k f l mid m1 (by lia) (by lia) h4 (fun i hi hk => o.tr _ _ _ (o.of_lt hc) (hu.far o hi hk)) hu
      | false =>
        rw [if_neg (by decide)]
        exact place_run o p k f (mid + 1) r (by lia) h2 (by lia) (fun i hi => o.tr _ _ _ (hu.far o (i := i) (j := mid) (by lia) (by lia)) (o.of_not hc)) h5 hu
theorem at0_bubble {p : Array Nat} {k d : Nat} (hk : k < p.size) (hd : d ≤ k) (i : Nat) : at0 (bubble p k d) i = if i = k - d then at0 p k else if k - d < i ∧ i ≤ k then at0 p (i - 1) else at0 p i := by
  by_cases h : i = k - d
  · rw [if_pos h]; exact at0_eq (by rw [getElem?_bubble hk d hd, if_pos h])
  · rw [if_neg h]
    by_cases h2 : k - d < i ∧ i ≤ k
    · rw [if_pos h2]; exact at0_eq (by rw [getElem?_bubble hk d hd, if_neg h, if_pos h2])
    · rw [if_neg h2]; exact at0_eq (by rw [getElem?_bubble hk d hd, if_neg h, if_neg h2])
theorem bin_run (o : Ord le lt) : ∀ (f : Nat) (p : Array Nat) (k : Nat), k + f ≤ p.size → Up le p k → (runT lt (kas_bin f p k)).Perm p ∧ Up le (runT lt (kas_bin f p k)) (k + f)
  | 0, p, k, _, h => ⟨Array.Perm.refl _, h⟩
  | f + 1, p, k, hs, h => by
    unfold kas_bin
    rw [runT_bind]
    obtain ⟨a, b, c⟩ := place_run o p k k 0 k (Nat.zero_le _) (Nat.le_refl _) (by lia) (fun i hi => by lia) (fun i h1 h2 => by lia) h
    generalize runT lt (kas_place p k k 0 k) = l at a b c
    have hk : k < p.size := by lia
    have hu : Up le (bubble p k (k - l)) (k + 1) := fun i hi => by
      have e : k - (k - l) = l := by lia
      rw [at0_bubble hk (by lia), at0_bubble hk (by lia), e]
      by_cases h1 : i + 1 < l
      · rw [if_neg (by lia), if_neg (by lia), if_neg (by lia), if_neg (by lia)]
        exact h i (by lia)
      · by_cases h2 : i + 1 = l
        · rw [if_neg (by lia), if_neg (by lia), if_pos h2]
          exact b i (by lia)
        · by_cases h3 : i = l
          · rw [if_pos h3, if_neg (by lia), if_pos (by lia)]
            exact c (i + 1 - 1) (by lia) (by lia)
          · rw [if_neg h3, if_pos (by lia), if_neg (by lia), if_pos (by lia)]
            have := h (i - 1) (by lia)
            have e3 : i - 1 + 1 = i + 1 - 1 := by lia
            rw [e3] at this; exact this
    obtain ⟨x, y⟩ := bin_run o f (bubble p k (k - l)) (k + 1) (by rw [bubble_size]; lia) hu
    exact ⟨x.trans (bubble_perm _ _ _), by have e : k + (f + 1) = k + 1 + f := by lia
                                           rw [e]; exact y⟩
theorem sort_run (o : Ord le lt) {n : Nat} (h1 : 1 ≤ n) : (runT lt (kas_sort n)).Perm (List.toArray (List.range n)) ∧ Up le (runT lt (kas_sort n)) n := by
  unfold kas_sort
  rw [runT_bind]
  have hs : n = (List.toArray (List.range n)).size := by simp
  obtain ⟨a, b, c, d⟩ := count_run (p := List.toArray (List.range n)) o h1 hs
  generalize runT lt (kas_count n (List.toArray (List.range n))) = r at a b c d
  have hb : r.1 ≤ n := by rw [← hs] at b; exact b
  by_cases e : r.1 < n
  · rw [if_pos e]
    have em : max r.1 1 = r.1 := by lia
    rw [em]
    obtain ⟨x, y⟩ := bin_run o (n - r.1) r.2 r.1 (by rw [a.size_eq, ← hs]; lia) d
    have e2 : r.1 + (n - r.1) = n := by lia
    rw [e2] at y
    exact ⟨x.trans a, y⟩
  · rw [if_neg e]
    have e2 : r.1 = n := by lia
    rw [e2] at d
    exact ⟨a, d⟩
end
end

-- S2
section

def AskP (n : Nat) {α : Type} (P : α → Prop) : KasT α → Prop
  | .ret a => P a
  | .ask i j k => i < n ∧ j < n ∧ ∀ b, AskP n P (k b)
theorem AskP.bind {n : Nat} {α β : Type} {P : α → Prop} {R : β → Prop} {f : α → KasT β} (hf : ∀ a, P a → AskP n R (f a)) : ∀ {t : KasT α}, AskP n P t → AskP n R (t.bind f)
  | .ret _, h => hf _ h
  | .ask _ _ _, h => ⟨h.1, h.2.1, fun b => AskP.bind hf (h.2.2 b)⟩
theorem AskP.ite {n : Nat} {α : Type} {P : α → Prop} {c : Prop} [Decidable c] {t u : KasT α} (h : AskP n P t) (k : AskP n P u) : AskP n P (if c then t else u) := by
  by_cases q : c
  · rw [if_pos q]; exact h
  · rw [if_neg q]; exact k
abbrev Sm (n : Nat) (p : Array Nat) : Prop := ∀ x ∈ p, x < n
theorem Sm.at {n : Nat} (h0 : 0 < n) {p : Array Nat} (h : Sm n p) (i : Nat) : p.getD i 0 < n := by
  rw [Array.getD_eq_getD_getElem?]
  cases e : p[i]? with
  | none => exact h0
  | some x => exact h x (Array.mem_of_getElem? e)
theorem Sm.perm {n : Nat} {p q : Array Nat} (h : Sm n p) (e : q.Perm p) : Sm n q := fun x hx => h x (e.mem_iff.mp hx)
section
variable {n : Nat} (h0 : 0 < n)
include h0
theorem ask_asc {p : Array Nat} (hp : Sm n p) : ∀ (f k : Nat), AskP n (fun _ => True) (kas_asc p f k)
  | 0, _ => trivial
  | f + 1, k => ⟨hp.at h0 _, hp.at h0 _, fun b => AskP.ite trivial (ask_asc hp f (k + 1))⟩
theorem ask_desc : ∀ (f : Nat) (p : Array Nat) (k q : Nat), Sm n p → AskP n (fun r => Sm n r.1) (kas_desc f p k q)
  | 0, _, _, _, hp => hp
  | f + 1, p, k, q, hp => ⟨hp.at h0 _, hp.at h0 _, fun b => AskP.ite (AskP.ite (ask_desc f _ _ _ (hp.perm (rev_perm _ _ _))) (ask_desc f _ _ _ hp))
      ⟨hp.at h0 _, hp.at h0 _, fun b => AskP.ite hp (ask_desc f _ _ _ hp)⟩⟩
theorem ask_tail3 {p : Array Nat} (hp : Sm n p) (k nrem : Nat) : AskP n (fun r => Sm n r.2) (kas_tail3 k nrem p) := by
  unfold kas_tail3
  refine AskP.bind (P := fun _ => True) (fun a _ => ?_) (ask_asc h0 (hp.perm (rev_perm _ _ _)) _ _)
  exact hp.perm (rev_perm _ _ _)
theorem ask_descPart {p : Array Nat} (hp : Sm n p) (k nrem : Nat) : AskP n (fun r => Sm n r.2) (kas_descPart k nrem p) := by
  unfold kas_descPart
  refine AskP.bind (P := fun r => Sm n r.1) (fun r hr => ?_) (ask_desc h0 _ _ _ _ hp)
  exact AskP.ite (ask_tail3 h0 (hr.perm (rev_perm _ _ _)) _ _) (ask_tail3 h0 hr _ _)
theorem ask_count {p : Array Nat} (hp : Sm n p) (nrem : Nat) : AskP n (fun r => Sm n r.2) (kas_count nrem p) := by
  unfold kas_count
  refine AskP.bind (P := fun _ => True) (fun k _ => ?_) (ask_asc h0 hp _ _)
  refine AskP.ite (show Sm n p from hp) (AskP.ite ?_ (ask_descPart h0 hp _ _))
  exact ⟨hp.at h0 _, hp.at h0 _, fun b => AskP.ite (show Sm n p from hp) (ask_descPart h0 (hp.perm (rev_perm _ _ _)) _ _)⟩
theorem ask_place {p : Array Nat} (hp : Sm n p) (k : Nat) : ∀ (f l r : Nat), AskP n (fun _ => True) (kas_place p k f l r)
  | 0, _, _ => trivial
  | f + 1, l, r => by
    unfold kas_place
    exact AskP.ite trivial ⟨hp.at h0 _, hp.at h0 _, fun b => AskP.ite (ask_place hp k f _ _) (ask_place hp k f _ _)⟩
theorem ask_bin : ∀ (f : Nat) (p : Array Nat) (k : Nat), Sm n p → AskP n (fun _ => True) (kas_bin f p k)
  | 0, _, _, _ => trivial
  | f + 1, p, k, hp => by
    unfold kas_bin
    refine AskP.bind (P := fun _ => True) (fun l _ => ?_) (ask_place h0 hp k _ _ _)
    exact ask_bin f _ _ (hp.perm (bubble_perm _ _ _))
theorem ask_sort : AskP n (fun _ => True) (kas_sort n) := by
  unfold kas_sort
  refine AskP.bind (P := fun r => Sm n r.2) (fun r hr => ?_) (ask_count h0 (p := List.toArray (List.range n)) (fun x hx => by simpa using hx) n)
  exact AskP.ite (ask_bin h0 _ _ _ hr) (show True from trivial)
end
theorem kasWp_run {n : Nat} {α : Type} {P : α → Prop} {cmp : Nat → Nat → (Bool → Shared → Prop) → Shared → Prop} {lt : Nat → Nat → Bool} {Q : α → Shared → Prop} {s : Shared} (hc : ∀ i j C, i < n → j < n → C (lt i j) s → cmp i j C s) :
    ∀ {t : KasT α}, AskP n P t → Q (runT lt t) s → t.kasWp cmp Q s
  | .ret _, _, h => h
  | .ask i j k, a, h => hc i j _ a.1 a.2.1 (kasWp_run hc (a.2.2 _) h)
end

-- S3
section
section
variable {prog : Program} {w : World} {A : Around} {E : Value → Shared → Prop} {s : Shared}
theorem call_float_lt {a b : UInt64} {t u : Tok} {Q : Value → Shared → Prop} (h : Q (.bool (Float64.cmp a b == some Ordering.lt)) s) :
    wpAny (model prog w) A (call (.builtin "float.__lt__") [.float a t, .float b u]) Q E s := by
  refine wpAny_call_entry F.slot_float_lt (typeIs_float s a t) F.entry_float_lt ?_ (F.args_float_lt_2 _ _)
  show wpAny _ _ (ret (.bool _)) _ _ s
  exact wpAny_pure ⟨_, rfl, h⟩
theorem oneLt_float {a b : UInt64} {t u : Tok} {Q : Bool → Shared → Prop} (h : Q (Float64.cmp a b == some Ordering.lt) s) : wpAny (model prog w) A (oneLt' true (.float a t) (.float b u)) Q E s := by
  rw [oneLt'_eq]
  simp only [if_true]
  refine wpAny_bind (wpAny_cRoomFor_byValue rfl ?_)
  refine wpAny_bind (wpAny_callSpecialIfBound?_slot (typeIs_float s a t) F.slot_float_lt (call_float_lt ?_))
  exact wpAny_truthy_bool h
end

section
variable {prog : Program} {w : World} {A : Around} {E : Value → Shared → Prop} {h₀ : Heap} {L : Addr} {s₀ s : Shared} {m : NMap} {G : Ctx} {fl : Bool}
theorem one_scalar {T : Tks} {v u : Value} {x y : Int} {Q : Bool → Shared → Prop} (hv : NV fl T v x) (hu : NV fl T u y) (h : Q (decide (x < y)) s) : wpAny (model prog w) A (oneLt' true v u) Q E s := by
  cases fl with
  | false =>
    obtain ⟨t, rfl⟩ := hv
    obtain ⟨t', rfl⟩ := hu
    exact oneLt_int h
  | true =>
    obtain ⟨p, t, rfl, ht, hp, rfl⟩ := hv
    obtain ⟨q, t', rfl, ht', hq, rfl⟩ := hu
    refine oneLt_float ?_
    have e : (Float64.cmp p q == some Ordering.lt) = decide ((p.toNat : Int) < (q.toNat : Int)) := by
      rw [cmp_good hp hq]
      rcases Nat.lt_trichotomy p.toNat q.toNat with hlt | heq | hgt
      · rw [Nat.compare_eq_lt.mpr hlt, decide_eq_true (by lia)]; rfl
      · rw [heq, Nat.compare_eq_eq.mpr rfl, decide_eq_false (by lia)]; rfl
      · rw [Nat.compare_eq_gt.mpr hgt, decide_eq_false (by lia)]; rfl
    rw [e]; exact h
theorem kat_lex (S : St h₀ L s₀ m G s) (nb : NoneBooked s.heap) {Q : Bool → Shared → Prop} : ∀ (xs ys : List Value) (d e : List Int) (i : Nat), All2 (NV fl G.2) xs d → All2 (NV fl G.2) ys e → d.length = e.length → Q (decide (d < e)) s →
    KatLex prog w A true false Q (xs.zip ys) i s
  | _, _, _, _, i, .nil, .nil, _, h => by
    refine kat_nil ?_
    have : decide (([] : List Int) < []) = false := by decide
    rw [this] at h; exact h
  | _, _, _, _, i, .cons (x := p) (y := x) (xs := xs) (ys := d) hp hd, .cons (x := q) (y := y) (xs := ys) (ys := e) hq he, hl, h => by
    refine kat_cons (eq_scalar S.tkOk nb hp hq _ _ _ _ ?_)
    by_cases hxy : x = y
    · subst hxy
      rw [decide_eq_true rfl]
      refine kat_yes (kat_lex S nb xs ys d e (i + 1) hd he (by simpa using hl) ?_)
      have : decide (x :: d < x :: e) = decide (d < e) := by rw [decide_eq_decide, List.cons_lt_cons_iff]; simp
      rw [← this]; exact h
    · rw [decide_eq_false hxy]
      have hlt : decide (x :: d < y :: e) = decide (x < y) := by rw [decide_eq_decide, List.cons_lt_cons_iff]; simp [hxy]
      rw [hlt] at h
      refine kat_no ?_
      cases i with
      | zero => exact one_scalar hp hq h
      | succ i =>
        show wpAny (model prog w) A (oneLt' false p q) Q (fun _ _ => False) s
        exact kat_one p q (lt_scalar hp hq _ _ _ _ h)
  | _, _, _, _, _, .nil, .cons _ _, hl, _ => by simp at hl
  | _, _, _, _, _, .cons _ _, .nil, hl, _ => by simp at hl

theorem katTups_of (S : St h₀ L s₀ m G s) : ∀ {vs : List Value} {ds : List (List Int)}, All2 (TV fl G) vs ds → (∀ d ∈ ds, d.length = 3) → ∃ fs : List Value, KatTups s.heap vs fs ∧ fs.length = vs.length ∧ ∀ f ∈ fs, ∃ x, NV fl G.2 f x
  | _, _, .nil, _ => ⟨[], KatTups.nil, rfl, fun _ h => by simp at h⟩
  | _, _, .cons (x := v) (y := d) hv r, h => by
    obtain ⟨fs, h1, h2, h3⟩ := katTups_of S r fun d hd => h d (.tail _ hd)
    obtain ⟨a, xs, rfl, ha, hx⟩ := hv
    have hl := h d (.head _)
    match xs, d, hx, hl with
    | [], [], .nil, hl => simp at hl
    | x :: xs, i :: d, .cons hxi _, _ =>
      exact ⟨x :: fs, KatTups.cons (S.get ha) rfl rfl rfl h1, by simp [h2], fun f hf => by
        rcases List.mem_cons.mp hf with rfl | hf
        · exact ⟨i, hxi⟩
        · exact h3 f hf⟩

theorem ordL (ds : List (List Int)) : Ord (fun i j => ¬ ds.getD j [] < ds.getD i []) (fun i j => decide (ds.getD i [] < ds.getD j [])) where
  tot i j := by
    by_cases h : ds.getD j [] < ds.getD i []
    · exact .inr (List.lt_asymm h)
    · exact .inl h
  tr i j k h1 h2 := List.le_trans (l₁ := ds.getD i []) (l₂ := ds.getD j []) (l₃ := ds.getD k []) h1 h2
  lt_iff i j := by simp
abbrev Rises (es : List (List Int)) : Prop := es.Pairwise fun a b => ¬ b < a
theorem sort_list (ds : List (List Int)) (h1 : 1 ≤ ds.length) :
    ∃ p : Array Nat, runT (fun i j => decide (ds.getD i [] < ds.getD j [])) (kas_sort ds.length) = p ∧ (∀ i ∈ p.toList, i < ds.length) ∧ (p.toList.map fun i => ds.getD i []).Perm ds ∧ Rises (p.toList.map fun i => ds.getD i []) := by
  obtain ⟨a, b⟩ := sort_run (ordL ds) h1
  generalize runT (fun i j => decide (ds.getD i [] < ds.getD j [])) (kas_sort ds.length) = p at a b
  have hp : p.toList.Perm (List.range ds.length) := by simpa using a.toList
  have hs : p.toList.length = ds.length := by rw [hp.length_eq, List.length_range]
  refine ⟨p, rfl, fun i hi => List.mem_range.mp (hp.mem_iff.mp hi), ?_, ?_⟩
  · have := hp.map (fun i => ds.getD i [])
    rwa [range_getD] at this
  · rw [Rises, List.pairwise_map, List.pairwise_iff_getElem]
    intro i j hi hj hij
    have e : ∀ k (hk : k < p.toList.length), at0 p k = p.toList[k] := fun k hk => by
      have hk' : k < p.size := by simpa using hk
      simp [at0, Array.getD, hk']
    have := b.far (ordL ds) (i := i) (j := j) (by lia) (by lia)
    rw [e i hi, e j hj] at this
    exact this

theorem c_sort {Ld : Led} {Tk : Tks} {l : Addr} {vs : List Value} {n : Nat} {ds : List (List Int)} {Q : Value → Shared → Prop} (S : St h₀ L s₀ m (Ld, Tk) s) (st : ∃ c n, ∃ K : Frag, K.In h₀ ∧ K.lookup cStatics = some ⟨c, none, .dict #[] n, #[]⟩) (hl : (l, lstO vs n) ∈ Ld) (hd : All2 (TV fl (Ld, Tk)) vs ds) (h3 : ∀ d ∈ ds, d.length = 3)
    (h2 : 2 ≤ ds.length) (h64 : ds.length < 64)
    (h : ∀ D c us es s', St h₀ L s₀ m ((D, lstO us c) :: Ld, Tk) s' → (∀ p ∈ Ld, p.1 ≠ D) → All2 (TV fl (Ld, Tk)) us es → es.Perm ds → Rises es → Q (.ref D) s') :
    wpAny (model prog w) A (call (.builtin "sorted") [.ref l]) Q E s := by
  have hlen := hd.length
  refine kat_sorted S.F S.N (S.isList hl) (by lia) (by lia) fun D e1 h' F' N' hlt => ?_
  have S' : St h₀ L s₀ m ((D, seqObj "list" #[] e1) :: Ld, Tk) { s with heap := h' } := S.heap F' N' rfl
  have g' : Gr ((Ld, Tk) : Ctx) ((D, seqObj "list" #[] e1) :: Ld, Tk) := Gr.obj
  have hd' := hd.mono fun v d h => TV.mono g' h
  have nb : NoneBooked ({ s with heap := h' } : Shared).heap := by
    obtain ⟨c, n, K, X, hk⟩ := st
    exact noneBooked_of (X.keeps S'.F.keep) hk
  obtain ⟨fs, t1, t2, t3⟩ := katTups_of S' hd' h3
  refine kat_kind (T := .type (if fl then "float" else "int")) t1 (by lia) (fun f hf => ?_) (by cases fl <;> decide) ?_
  · obtain ⟨x, hx⟩ := t3 f hf
    cases fl with
    | false => obtain ⟨t, rfl⟩ := hx; exact Looks.of_pure rfl
    | true => obtain ⟨p, t, rfl, _⟩ := hx; exact Looks.of_pure rfl
  · have hT : ((.type (if fl then "float" else "int") : Value) != Value.type "tuple") = true := by cases fl <;> decide
    rw [hT, hlen]
    refine kasWp_run (n := ds.length) (lt := fun i j => decide (ds.getD i [] < ds.getD j [])) (fun i j C hi hj hC => ?_) (ask_sort (by lia)) ?_
    · have hi' : i < vs.length := by lia
      have hj' : j < vs.length := by lia
      have ei : vs.getD i Value.none = vs[i] := by simp [hi']
      have ej : vs.getD j Value.none = vs[j] := by simp [hj']
      have di : ds.getD i [] = ds[i] := by simp [hi]
      have dj : ds.getD j [] = ds[j] := by simp [hj]
      show wpAny (model prog w) _ (keyLt' (tuples' true) (vs.getD i Value.none) (vs.getD j Value.none)) C (fun _ _ => False) _
      rw [ei, ej]
      obtain ⟨a, xs, ea, ha, hx⟩ := hd'.get i hi' hi
      obtain ⟨b, ys, eb, hb, hy⟩ := hd'.get j hj' hj
      rw [ea, eb]
      have l1 := hx.length
      have l2 := hy.length
      have l3 := h3 _ (List.getElem_mem hi)
      have l4 := h3 _ (List.getElem_mem hj)
      refine kat_lt (S'.get ha) rfl (S'.get hb) rfl ?_
      have hsz : decide (xs.toArray.size < ys.toArray.size) = false := decide_eq_false (by simp only [List.size_toArray]; lia)
      rw [hsz]
      rw [di, dj] at hC
      exact kat_lex S' nb xs ys ds[i] ds[j] 0 hx hy (by lia) hC
    · obtain ⟨p, e, q1, q2, q3⟩ := sort_list ds (by lia)
      rw [e]
      refine KasFin.intro S'.F S'.N (UpdF.head fun q hq => Nat.ne_of_lt (hlt q hq)) fun h2 c F2 N2 => ?_
      have S2 : St h₀ L s₀ m ((D, lstO (p.toList.map fun i => vs.getD i Value.none) c) :: Ld, Tk) _ := S'.heap F2 N2 rfl
      refine h D c _ _ _ S2 (fun q hq => Nat.ne_of_lt (hlt q hq)) ?_ q2 q3
      have key : ∀ l : List Nat, (∀ i ∈ l, i < ds.length) → All2 (TV fl ((Ld, Tk) : Ctx)) (l.map fun i => vs.getD i Value.none) (l.map fun i => ds.getD i []) := by
        intro l
        induction l with
        | nil => intro _; exact .nil
        | cons i l ih =>
          intro hl
          have hi := hl i (.head _)
          have hi' : i < vs.length := by lia
          refine .cons ?_ (ih fun j hj => hl j (.tail _ hj))
          have := hd.get i hi' hi
          simpa [hi, hi'] using this
      exact key _ q1
end

section
variable {prog : Program} {w : World} {A : Around} {E : Value → Shared → Prop} {h₀ : Heap} {L : Addr} {s₀ s : Shared} {m : NMap} {G : Ctx} {fl : Bool}
theorem list_sort_short {a : Addr} {vs : List Value} {n : Nat} {P : PySem.Fin → Shared → Prop} (ho : s.heap.get? a = some (seqObj "list" vs.toArray n)) (h2 : vs.length < 2)
    (h : P (.done (.ret .none)) { s with heap := sortedHeap s.heap a vs vs.toArray }) : wpAny (model prog w) A (Builtin.«list.sort» ⟨[.ref a], []⟩) P E s := by
  rw [list_sort_plain]
  have ha : a < s.heap.objs.size := Heap.lt_size ho
  refine wpAny_bind (listItems_at ho rfl ?_)
  refine wpAny_bind (listUpdate_at ho rfl ?_ (by rw [List.size_toArray, sizeLine_eq]; lia) (Nat.zero_le _))
  obtain ⟨e1, ho1⟩ : ∃ e1, (s.heap.update a (Obj.mapSeq fun _ => (#[] : Array Value))).get? a = some (seqObj "list" #[] e1) := ⟨_, get?_update_seq ho (fun _ => #[])⟩
  refine wpAny_bind (seqEpoch_at ho1 rfl ?_)
  refine wpAny_bind (wpAny_newTuple ?_ (by show vs.length ≤ _; rw [sizeLine_eq]; lia))
  refine wpAny_bind (wpAny_newList ?_ (Nat.zero_le _))
  refine wpAny_holding ?_
  have ho6 : (((s.heap.update a (Obj.mapSeq fun _ => (#[] : Array Value))).push (seqObj "tuple" vs.toArray 0)).push (seqObj "list" #[] 0)).get? a = some (seqObj "list" #[] e1) := by
    rw [Heap.get?_push_ne _ _ _ (by rw [size_push', Heap.size_update]; exact Nat.ne_of_lt (Nat.lt_succ_of_lt ha)), Heap.get?_push_ne _ _ _ (by rw [Heap.size_update]; exact Nat.ne_of_lt ha)]
    exact ho1
  show wpAny (model prog w) A _ P E { s with heap := ((s.heap.update a (Obj.mapSeq fun _ => (#[] : Array Value))).push (seqObj "tuple" vs.toArray 0)).push (seqObj "list" #[] 0) }
  dsimp only
  have hn2 : vs.toArray.size < 2 := by rw [List.size_toArray]; exact h2
  rw [if_pos hn2, if_pos hn2]
  refine wpAny_bind (wpAny_pure ?_)
  rw [StateT.run_pure]
  refine wpAny_bind (wpAny_pure ?_)
  dsimp only
  have hout : (arrOf (SortSt.mk' general' (vs.toArray.zip vs.toArray) #[] 7 none)).map (·.2) = vs.toArray := by
    show (vs.toArray.zip vs.toArray).map (·.2) = vs.toArray
    apply Array.ext
    · simp
    · intro i h1 h2; simp
  rw [hout]
  refine wpAny_bind (seqEpoch_at ho6 rfl ?_)
  refine wpAny_bind (listUpdate_at ho6 rfl ?_ (Nat.zero_le _) (by rw [List.size_toArray, sizeLine_eq]; lia))
  simp only [bne_self_eq_false, Bool.false_eq_true, if_false]
  exact wpAny_pure h
theorem c_sort_short {Ld : Led} {Tk : Tks} {l : Addr} {vs : List Value} {n : Nat} {Q : Value → Shared → Prop} (S : St h₀ L s₀ m (Ld, Tk) s) (hl : (l, lstO vs n) ∈ Ld) (h2 : vs.length < 2)
    (h : ∀ D c s', St h₀ L s₀ m ((D, lstO vs c) :: Ld, Tk) s' → (∀ p ∈ Ld, p.1 ≠ D) → Q (.ref D) s') : wpAny (model prog w) A (call (.builtin "sorted") [.ref l]) Q E s := by
  refine Calls.call_function_entry kind_sorted plain_sorted entry_sorted (args_sorted1 _) ?_
  unfold Builtin.«sorted»
  refine wpAny_bind (m := checkCount "sorted" 1 1 _) (wpAny_pure ?_)
  refine wpAny_bind (collect_list (S.isList hl) ?_ (by rw [sizeLine_eq]; lia))
  refine wpAny_bind (wpAny_newList ?_ (by rw [sizeLine_eq]; lia))
  have hsz : ((s.heap.push (seqObj "list" #[] 0)).update s.heap.objs.size (Obj.mapSeq (· ++ vs.toArray))).objs.size = s.heap.objs.size + 1 := by
    rw [Heap.size_update, size_push']
  generalize hH : (s.heap.push (seqObj "list" #[] 0)).update s.heap.objs.size (Obj.mapSeq (· ++ vs.toArray)) = H at hsz
  have hoL : (H.push (seqObj "list" vs.toArray 0)).get? (s.heap.objs.size + 1) = some (seqObj "list" vs.toArray 0) := by
    rw [← hsz]; exact Heap.get?_push_size _ rfl
  have keep : ∀ b o, s.heap.get? b = some o → (H.push (seqObj "list" vs.toArray 0)).get? b = some o := fun b o q => by
    have hlt : b < s.heap.objs.size := Heap.lt_size q
    rw [Heap.get?_push_ne _ _ _ (by rw [hsz]; exact Nat.ne_of_lt (Nat.lt_succ_of_lt hlt)), ← hH, Heap.get?_update_ne _ _ _ _ (Nat.ne_of_lt hlt), Heap.get?_push_ne _ _ _ (Nat.ne_of_lt hlt)]
    exact q
  show wpAny _ _ _ _ _ { s with heap := H.push (seqObj "list" vs.toArray 0) }
  rw [hsz]
  refine wpAny_bind (wpAny_holding (wpAny_call_entry slot_list_sort ⟨_, hoL, rfl⟩ entry_list_sort ?body (args_list_sort _)))
  case body =>
    refine list_sort_short hoL h2 ⟨_, rfl, wpAny_pure ⟨_, rfl, ?_⟩⟩
    dsimp only
    generalize hH2 : H.push (seqObj "list" vs.toArray 0) = H2 at hoL keep
    have hlt2 : s.heap.objs.size + 1 < H2.objs.size := Heap.lt_size hoL
    obtain ⟨e1, ho1⟩ : ∃ e1, (H2.update (s.heap.objs.size + 1) (Obj.mapSeq fun _ => (#[] : Array Value))).get? (s.heap.objs.size + 1) = some (seqObj "list" #[] e1) := ⟨_, get?_update_seq hoL (fun _ => #[])⟩
    have ho6 : (((H2.update (s.heap.objs.size + 1) (Obj.mapSeq fun _ => (#[] : Array Value))).push (seqObj "tuple" vs.toArray 0)).push (seqObj "list" #[] 0)).get? (s.heap.objs.size + 1) = some (seqObj "list" #[] e1) :=
      Heap.get?_push_of_some _ (Heap.get?_push_of_some _ ho1)
    obtain ⟨c2, hfin⟩ : ∃ c2, (sortedHeap H2 (s.heap.objs.size + 1) vs vs.toArray).get? (s.heap.objs.size + 1) = some (seqObj "list" vs.toArray c2) := ⟨_, get?_update_seq ho6 (fun _ => vs.toArray)⟩
    refine h _ c2 _ (S.upd [] [(s.heap.objs.size + 1, lstO vs c2)] (tk := s.toks) (fun _ h => by simp at h) (fun b o _ e => ?_) (fun p hp => ?_) (Nat.le_refl _) |>.mono ⟨fun p hp => ?_, fun p hp => hp⟩) (fresh_of S (none_size (Nat.le_succ _)))
    · have hbl : b < s.heap.objs.size := Heap.lt_size e
      have hb : b ≠ s.heap.objs.size + 1 := Nat.ne_of_lt (Nat.lt_succ_of_lt hbl)
      have k2 := keep b o e
      have hk1 : (H2.update (s.heap.objs.size + 1) (Obj.mapSeq fun _ => (#[] : Array Value))).get? b = some o := (Heap.get?_update_ne _ _ _ _ hb).trans k2
      exact (Heap.get?_update_ne _ _ _ _ hb).trans (Heap.get?_push_of_some _ (Heap.get?_push_of_some _ hk1))
    · rw [List.mem_singleton.mp hp]
      exact ⟨hfin, .inr (none_size (Nat.le_succ _))⟩
    · rcases List.mem_cons.mp hp with rfl | hp
      · exact outO_add (.head _)
      · exact outO_gr.a _ hp (by simp)
end
end

-- S4
section

def maxD (b : List Int) : List (List Int) → List Int
  | [] => b
  | d :: r => maxD (if b < d then d else b) r

section
variable {prog : Program} {w : World} {A : Around} {R : Result → Shared → Prop} {h₀ : Heap} {L : Addr} {s₀ : Shared} {m : NMap} {fl : Bool}
theorem set_two {B : Addr} {G : Ctx} {s : Shared} {xs : List Value} {c : Nat} (S : St h₀ L s₀ m G s) (hB : (B, lstO xs c) ∈ G.1) (ys : List Value) :
    ∃ c', St h₀ L s₀ m (outO [B] [(B, lstO ys c')] G) { s with heap := s.heap.update B (Obj.mapSeq fun _ => ys.toArray) } := by
  obtain ⟨c', hc⟩ : ∃ c', (s.heap.update B (Obj.mapSeq fun _ => ys.toArray)).get? B = some (lstO ys c') := ⟨_, get?_update_seq (S.get hB) fun _ => ys.toArray⟩
  exact ⟨c', S.upd1 hB (Heap.SameBut.update ..) hc⟩
theorem max_loop {I l B : Addr} {vs : List Value} {n0 : Nat} {ds : List (List Int)} (hh : A.handled = none) (hu : A.units + 1 < cLine) (nb : ∀ G s, St h₀ L s₀ m G s → NoneBooked s.heap) (hlB : l ≠ B) (hIl : I ≠ l) (hIB : I ≠ B) :
    ∀ (k j : Nat) (G : Ctx) (s : Shared) (vb : Value) (db : List Int) (c : Nat), ds.length - j = k → j ≤ ds.length → St h₀ L s₀ m G s → LI G I l j → (l, lstO vs n0) ∈ G.1 → All2 (TV fl G) vs ds → TV fl G vb db → (B, lstO [vb, vb] c) ∈ G.1 →
      (∀ v G' s', St h₀ L s₀ m G' s' → GrB [I, B] G G' → TV fl G' v (maxD db (ds.drop j)) → R (.ok (.ret v)) s') → codeAny (model prog w) A (.builtin "max.loop" ⟨[.ref I, .none, .ref B], []⟩) R s := by
  have hname : (toString "max" ++ toString ".loop" : String) = "max.loop" := by decide
  intro k
  induction k with
  | zero =>
    intro j G s vb db c hk hj S hi hl hd hb hB hR
    have hj' : j = ds.length := by lia
    have hlen := hd.length
    refine codeAny_builtin F.entry_max_loop ?_
    rw [Around.under_plainId F.plain_max_loop _]
    show wpAny _ A.in1 (seqItems? (.ref B) >>= _) _ _ s
    refine wpAny_bind (wpAny_seqItems (S.get hB) rfl ?_)
    show wpAny _ A.in1 (tryCatch (pyNext (.ref I)) _ >>= _) _ _ s
    refine wpAny_bind (wpAny_tryCatch (nx_list_end hh S hi hl (List.getElem?_eq_none (by lia)) fun G1 s1 S1 g1 => ?_))
    have hB1 := g1.a _ hB (by simpa using Ne.symm hIB)
    show wpAny _ A.in1 (updateSeq B (fun _ => #[]) >>= _) _ _ _
    refine wpAny_bind ?_
    obtain ⟨c2, S2⟩ := set_two S1 hB1 []
    refine wpAny_updateSeq (S1.get hB1) rfl (wpAny_bind (wpAny_letGo (wpAny_pure ?_)))
    have g2 : GrB [I, B] G (outO [B] [(B, lstO [] c2)] G1) := (g1.sub (by simp)).trans (outO_gr.sub (by simp))
    refine hR vb _ _ S2 g2 ?_
    rw [hj', List.drop_length]
    exact TV.keepB S (.cons hi.nt.choose_spec.1 hi.nt.choose_spec.2 (.cons hB lst_nt .nil)) g2 hb
  | succ k ih =>
    intro j G s vb db c hk hj S hi hl hd hb hB hR
    have hlen := hd.length
    have hj1 : j < ds.length := by lia
    have hj2 : j < vs.length := by lia
    have ntI : NT G [I] := .cons hi.nt.choose_spec.1 hi.nt.choose_spec.2 .nil
    refine codeAny_builtin F.entry_max_loop ?_
    rw [Around.under_plainId F.plain_max_loop _]
    show wpAny _ A.in1 (seqItems? (.ref B) >>= _) _ _ s
    refine wpAny_bind (wpAny_seqItems (S.get hB) rfl ?_)
    show wpAny _ A.in1 (tryCatch (pyNext (.ref I)) _ >>= _) _ _ s
    refine wpAny_bind (wpAny_tryCatch (nx_list S hi hl (List.getElem?_eq_getElem hj2) fun G1 s1 S1 g1 hi1 => ?_))
    have hB1 := g1.a _ hB (by simpa using Ne.symm hIB)
    have hl1 := g1.a _ hl (by simpa using Ne.symm hIl)
    have hd1 := hd.mono fun v p h => TV.keepB S ntI g1 h
    have hb1 := TV.keepB S ntI g1 hb
    have tv := hd1.get j hj2 hj1
    have edrop : ds.drop j = ds[j] :: ds.drop (j + 1) := List.drop_eq_getElem_cons hj1
    rw [edrop] at hR
    show wpAny _ A.in1 (tryCatch (holding [vs[j], vs[j]] (richCompare .Gt vs[j] vb >>= _)) _ >>= _) _ _ _
    refine wpAny_bind (wpAny_tryCatch (wpAny_holding (wpAny_bind (gt_tv (A := A.in1) S1 (nb _ _ S1) hu tv hb1 _ _ _ _ ?_))))
    refine wpAny_bind (wpAny_holding (wpAny_truthy_bool ?_))
    refine wpAny_bind (wpAny_letGo (wpAny_pure ?_))
    by_cases hlt : db < ds[j]
    · rw [decide_eq_true hlt]
      simp only [if_true]
      refine wpAny_bind ?_
      obtain ⟨c2, S2⟩ := set_two S1 hB1 [vs[j], vs[j]]
      refine wpAny_updateSeq (S1.get hB1) rfl (wpAny_bind (wpAny_letGo ?_))
      rw [hname]
      have ntB : NT G1 [B] := .cons hB1 lst_nt .nil
      have g2 : GrB [B] G1 (outO [B] [(B, lstO [vs[j], vs[j]] c2)] G1) := outO_gr
      refine wpAny_pure ⟨plainId_quiet F.plain_max_loop _, ih (j + 1) _ _ vs[j] ds[j] c2 (by lia) hj1 S2 (hi1.keep g2 (by simpa using hIB)) (g2.a _ hl1 (by simpa using hlB)) (hd1.mono fun v p h => TV.keepB S1 ntB g2 h) (TV.keepB S1 ntB g2 tv) (outO_add (.head _)) fun v G' s' S' g' h => ?_⟩
      refine hR v G' s' S' ((g1.sub (by simp)).trans ((g2.sub (by simp)).trans g')) ?_
      show TV fl G' v (maxD (if db < ds[j] then ds[j] else db) (ds.drop (j + 1)))
      rw [if_pos hlt]; exact h
    · rw [decide_eq_false hlt]
      simp only [Bool.false_eq_true, if_false]
      refine wpAny_bind (wpAny_letGo ?_)
      rw [hname]
      refine wpAny_pure ⟨plainId_quiet F.plain_max_loop _, ih (j + 1) _ _ vb db c (by lia) hj1 S1 hi1 hl1 hd1 hb1 hB1 fun v G' s' S' g' h => ?_⟩
      refine hR v G' s' S' ((g1.sub (by simp)).trans g') ?_
      show TV fl G' v (maxD (if db < ds[j] then ds[j] else db) (ds.drop (j + 1)))
      rw [if_neg hlt]; exact h
end

section
variable {prog : Program} {w : World} {A : Around} {E : Value → Shared → Prop} {h₀ : Heap} {L : Addr} {s₀ s : Shared} {m : NMap} {fl : Bool}
theorem c_max {G : Ctx} {l : Addr} {v0 : Value} {vs : List Value} {n0 : Nat} {d0 : List Int} {ds : List (List Int)} {Q : Value → Shared → Prop} (hh : A.handled = none) (hu : A.units + 1 < cLine) (nb : ∀ G s, St h₀ L s₀ m G s → NoneBooked s.heap)
    (S : St h₀ L s₀ m G s) (hl : (l, lstO (v0 :: vs) n0) ∈ G.1) (hd : All2 (TV fl G) (v0 :: vs) (d0 :: ds))
    (h : ∀ v G' s', St h₀ L s₀ m G' s' → Gr G G' → TV fl G' v (maxD d0 ds) → Q v s') : wpAny (model prog w) A (call (.builtin "max") [.ref l]) Q E s := by
  have hname : (toString "max" ++ toString ".loop" : String) = "max.loop" := by decide
  refine call_function_tree F.kind_max F.plain_max F.entry_max (F.args_max1 _) ?_
  show wpAny _ A.in1 (Builtin.Builtins.bindParams "max" ["key", "default"] 0 ⟨[], []⟩ >>= _) _ _ s
  refine wpAny_bind (wpAny_of_eq (show Builtin.Builtins.bindParams "max" ["key", "default"] 0 ⟨[], []⟩ = pure [none, none] from rfl) ?_)
  refine wpAny_bind (wpAny_pure ?_)
  refine wpAny_bind (it_list S hl fun I G2 s2 S2 g2 hi hfI => ?_)
  have hl2 := g2.a _ hl
  refine wpAny_bind (wpAny_newObj_type ?_)
  have S3 := S2.new1 (o := lstO [] 0) (tk := s2.toks) rfl (Nat.le_refl _)
  generalize hB : s2.heap.objs.size = B at S3
  have fB : ∀ p ∈ G2.1, p.1 ≠ B := by rw [← hB]; exact fresh_of S2 (none_size (Nat.le_refl _))
  have hIl : I ≠ l := fun e => hfI _ hl e.symm
  obtain ⟨oI, hI1, _⟩ := id hi
  have hIB : I ≠ B := fB _ hI1
  have hlB : l ≠ B := fB _ hl2
  have g3 : Gr G2 ((B, lstO [] 0) :: G2.1, G2.2) := Gr.obj
  have hi3 := hi.keep (GrB.of (l := []) g3) (by simp)
  have hl3 := g3.a _ hl2
  have hd3 := hd.mono fun v p h => (h.mono g2).mono g3
  rw [hname]
  refine wpAny_pure ⟨plainId_quiet F.plain_max_loop _, ?_⟩
  refine codeAny_builtin F.entry_max_loop ?_
  rw [Around.under_plainId F.plain_max_loop _]
  show wpAny _ A.in1 (seqItems? (.ref B) >>= _) _ _ _
  refine wpAny_bind (wpAny_seqItems (S3.get (.head _)) rfl ?_)
  show wpAny _ A.in1 (tryCatch (pyNext (.ref I)) _ >>= _) _ _ _
  refine wpAny_bind (wpAny_tryCatch (nx_list S3 hi3 hl3 (i := 0) rfl fun G4 s4 S4 g4 hi4 => ?_))
  have ntI : NT (((B, lstO [] 0) :: G2.1, G2.2) : Ctx) [I] := .cons hi3.nt.choose_spec.1 hi3.nt.choose_spec.2 .nil
  have hB4 := g4.a _ (.head _) (by simpa using Ne.symm hIB)
  have hl4 := g4.a _ hl3 (by simpa using Ne.symm hIl)
  have hd4 := hd3.mono fun v p h => TV.keepB S3 ntI g4 h
  show wpAny _ A.in1 (updateSeq B (fun _ => #[v0, v0]) >>= _) _ _ _
  refine wpAny_bind ?_
  obtain ⟨c5, S5⟩ := set_two S4 hB4 [v0, v0]
  refine wpAny_updateSeq (S4.get hB4) rfl ?_
  rw [hname]
  have g5 : GrB [B] G4 (outO [B] [(B, lstO [v0, v0] c5)] G4) := outO_gr
  have ntB : NT G4 [B] := .cons hB4 lst_nt .nil
  have hd5 := hd4.mono fun v p h => TV.keepB S4 ntB g5 h
  have hv0 : TV fl (outO [B] [(B, lstO [v0, v0] c5)] G4) v0 d0 := by cases hd5 with | cons a _ => exact a
  refine wpAny_pure ⟨plainId_quiet F.plain_max_loop _, max_loop (ds := d0 :: ds) hh hu nb hlB hIl hIB _ 1 _ _ v0 d0 c5 rfl (by simp) S5 (hi4.keep g5 (by simpa using hIB)) (g5.a _ hl4 (by simpa using hlB)) hd5 hv0 (outO_add (.head _)) fun v G' s' S' g' hv => ?_⟩
  refine h v G' s' S' ⟨fun p hp => ?_, fun p hp => g'.b _ (g5.b _ (g4.b _ (g2.b _ hp)))⟩ hv
  have n1 : p.1 ≠ I := hfI p hp
  have n2 : p.1 ≠ B := fB p (g2.a p hp)
  exact g'.a _ (g5.a _ (g4.a _ (g3.a _ (g2.a p hp)) (by simpa using n1)) (by simpa using n2)) (by simp [n1, n2])
theorem c_cat {Ld : Led} {Tk : Tks} {a b : Addr} {us vs : List Value} {n k : Nat} {Q : Value → Shared → Prop} (S : St h₀ L s₀ m (Ld, Tk) s) (ha : (a, lstO us n) ∈ Ld) (hb : (b, lstO vs k) ∈ Ld) (hz : us.length + vs.length ≤ 1000)
    (h : ∀ D s', St h₀ L s₀ m ((D, lstO (us ++ vs) 0) :: Ld, Tk) s' → (∀ p ∈ Ld, p.1 ≠ D) → Q (.ref D) s') : wpAny (model prog w) A (binaryOp .Add (.ref a) (.ref b)) Q E s := by
  refine P.add_list (items := us.toArray) (items2 := vs.toArray) (n := n) (n2 := k) (S.get ha) (S.get hb) ?_ (by rw [List.size_toArray, List.size_toArray, sizeLine_eq]; lia)
  have e : us.toArray ++ vs.toArray = (us ++ vs).toArray := by simp
  rw [e]
  exact h _ _ (S.new1 (o := lstO (us ++ vs) 0) rfl (Nat.le_refl _)) (fresh_of S (none_size (Nat.le_refl _)))
theorem c_sorted {Ld : Led} {Tk : Tks} {l : Addr} {vs : List Value} {n : Nat} {ds : List (List Int)} {Q : Value → Shared → Prop} (S : St h₀ L s₀ m (Ld, Tk) s) (st : ∃ c n, ∃ K : Frag, K.In h₀ ∧ K.lookup cStatics = some ⟨c, none, .dict #[] n, #[]⟩) (hl : (l, lstO vs n) ∈ Ld) (hd : All2 (TV fl (Ld, Tk)) vs ds) (h3 : ∀ d ∈ ds, d.length = 3)
    (h64 : ds.length < 64) (h : ∀ D c us es s', St h₀ L s₀ m ((D, lstO us c) :: Ld, Tk) s' → (∀ p ∈ Ld, p.1 ≠ D) → All2 (TV fl (Ld, Tk)) us es → es.Perm ds → Rises es → Q (.ref D) s') :
    wpAny (model prog w) A (call (.builtin "sorted") [.ref l]) Q E s := by
  by_cases h2 : 2 ≤ ds.length
  · exact c_sort S st hl hd h3 h2 h64 h
  · have hlen := hd.length
    refine c_sort_short S hl (by lia) fun D c s' S' hf => h D c vs ds s' S' hf hd (List.Perm.refl _) ?_
    match ds, h2 with
    | [], _ => exact .nil
    | [d], _ => exact List.pairwise_singleton _ _
    | _ :: _ :: _, h2 => simp at h2
end
end

-- B0
section

noncomputable abbrev lo : List Str := looseW vq [Str.ofString "_tuplegetter", Str.ofString "Mismatch", Str.ofString "_Mismatch"]
abbrev Am (w : World) (A : Around) (env : Env) (h₀ : Heap) (L : Addr) (d : Nat) : Prop := Amb (hd.heap_1 w.params) vq lo A env h₀ L d
abbrev Md (w : World) : Model := model PySem.Challenge.rw_il0140_01.row.prog w

theorem k_ValueError (P : Params) : nsIn (hd.heap_1 P) mainGlobals (Str.ofString "ValueError") = some none := by kernel_rfl
theorem k_IndexError (P : Params) : nsIn (hd.heap_1 P) mainGlobals (Str.ofString "IndexError") = some none := by kernel_rfl
theorem k_max (P : Params) : nsIn (hd.heap_1 P) mainGlobals (Str.ofString "max") = some none := by kernel_rfl
theorem k_min (P : Params) : nsIn (hd.heap_1 P) mainGlobals (Str.ofString "min") = some none := by kernel_rfl
theorem k_int (P : Params) : nsIn (hd.heap_1 P) mainGlobals (Str.ofString "int") = some none := by kernel_rfl
theorem k_len (P : Params) : nsIn (hd.heap_1 P) mainGlobals (Str.ofString "len") = some none := by kernel_rfl
theorem k_list (P : Params) : nsIn (hd.heap_1 P) mainGlobals (Str.ofString "list") = some none := by kernel_rfl
theorem k_range (P : Params) : nsIn (hd.heap_1 P) mainGlobals (Str.ofString "range") = some none := by kernel_rfl
theorem k_enumerate (P : Params) : nsIn (hd.heap_1 P) mainGlobals (Str.ofString "enumerate") = some none := by kernel_rfl
theorem k_sorted (P : Params) : nsIn (hd.heap_1 P) mainGlobals (Str.ofString "sorted") = some none := by kernel_rfl
theorem k_object (P : Params) : nsIn (hd.heap_1 P) mainGlobals (Str.ofString "object") = some none := by kernel_rfl
theorem k_tuple (P : Params) : nsIn (hd.heap_1 P) mainGlobals (Str.ofString "tuple") = some none := by kernel_rfl
theorem g_28 (P : Params) : nsIn (hd.heap_1 P) mainGlobals (Str.ofString "rgb_to_hls") = some (some (.ref 28)) := by kernel_rfl
theorem g_35 (P : Params) : nsIn (hd.heap_1 P) mainGlobals (Str.ofString "rgb_to_hsv") = some (some (.ref 35)) := by kernel_rfl
theorem g_42 (P : Params) : nsIn (hd.heap_1 P) mainGlobals (Str.ofString "hsv_to_rgb") = some (some (.ref 42)) := by kernel_rfl
theorem g_92 (P : Params) : nsIn (hd.heap_1 P) mainGlobals (Str.ofString "sorted_list_difference") = some (some (.ref 92)) := by kernel_rfl
theorem g_99 (P : Params) : nsIn (hd.heap_1 P) mainGlobals (Str.ofString "unorderable_list_difference") = some (some (.ref 99)) := by kernel_rfl
theorem g_180 (P : Params) : nsIn (hd.heap_1 P) mainGlobals (Str.ofString "_count_diff_all_purpose") = some (some (.ref 180)) := by kernel_rfl
theorem g_185 (P : Params) : nsIn (hd.heap_1 P) mainGlobals (Str.ofString "_law_points") = some (some (.ref 185)) := by kernel_rfl
theorem g_192 (P : Params) : nsIn (hd.heap_1 P) mainGlobals (Str.ofString "_law_colours") = some (some (.ref 192)) := by kernel_rfl
theorem g_197 (P : Params) : nsIn (hd.heap_1 P) mainGlobals (Str.ofString "_law_hsv") = some (some (.ref 197)) := by kernel_rfl
theorem g_202 (P : Params) : nsIn (hd.heap_1 P) mainGlobals (Str.ofString "_law_hls") = some (some (.ref 202)) := by kernel_rfl
theorem g_207 (P : Params) : nsIn (hd.heap_1 P) mainGlobals (Str.ofString "_law_hsv_due") = some (some (.ref 207)) := by kernel_rfl
theorem g_214 (P : Params) : nsIn (hd.heap_1 P) mainGlobals (Str.ofString "_law_hls_due") = some (some (.ref 214)) := by kernel_rfl
theorem g_221 (P : Params) : nsIn (hd.heap_1 P) mainGlobals (Str.ofString "_law_beyond") = some (some (.ref 221)) := by kernel_rfl
theorem g_226 (P : Params) : nsIn (hd.heap_1 P) mainGlobals (Str.ofString "_law_rgb_holds") = some (some (.ref 226)) := by kernel_rfl
theorem g_231 (P : Params) : nsIn (hd.heap_1 P) mainGlobals (Str.ofString "_law_alone") = some (some (.ref 231)) := by kernel_rfl
theorem g_238 (P : Params) : nsIn (hd.heap_1 P) mainGlobals (Str.ofString "_law_hsv_holds") = some (some (.ref 238)) := by kernel_rfl
theorem g_243 (P : Params) : nsIn (hd.heap_1 P) mainGlobals (Str.ofString "_law_hls_holds") = some (some (.ref 243)) := by kernel_rfl
theorem g_170 (P : Params) : nsIn (hd.heap_1 P) mainGlobals (Str.ofString "_Mismatch") = some (some (.ref 170)) := by kernel_rfl

def IsFn (K : Frag) (f : Addr) : Prop := ∃ o fd, K.lookup f = some o ∧ o.data = .func fd
theorem cDef {K : Frag} {p : Program} {loose : List Str} {M : Model} {A : Around} {E : Value → Shared → Prop} {env env' : Env} {h₀ : Heap} {L : Addr} {d : Nat} {s : Shared} {pos : Pos} {f : Addr} {e : Expr} {rest : List Expr} {Q : Value → Shared → Prop}
    (am : Amb K p loose A env h₀ L d) (hf : IsFn K f)
    (h : wpAny M A (spliced (backTo pos (starEach (e :: rest) env'))) (fun vs s₁ => (∃ s₀ m G, St h₀ L s₀ m G s₁) ∧ wpAny M A (call (.ref f) vs) Q E s₁) E s)
    (he : starEach (e :: rest) env' = (false, eval e env') :: starEach rest env' := by rfl) : wpAny M A (callWith pos (.ref f) [] (backTo pos (starEach (e :: rest) env')) []) Q E s := by
  obtain ⟨o, fd, ho, hd⟩ := hf
  refine callWith_def (o := o) hd (wpAny_mono h (fun vs s₁ h => ⟨?_, h.2⟩) fun _ _ x => x) he
  obtain ⟨⟨s₀, m, G, S⟩, _⟩ := h
  exact (am.X.keeps S.F.keep) _ _ ho

section
variable {prog : Program} {w : World} {A : Around} {E : Value → Shared → Prop} {h₀ : Heap} {L : Addr} {s₀ s : Shared} {m : NMap} {G : Ctx} {fl : Bool}
theorem eqL {Q : Value → Shared → Prop} (S : St h₀ L s₀ m G s) (nb : NoneBooked s.heap) (hu : A.units + 1 < cLine) {a b : Addr} {us vs : List Value} {n k : Nat} {ds es : List (List Int)} (hl : (a, lstO us n) ∈ G.1) (hd : All2 (TV fl G) us ds) (hl' : (b, lstO vs k) ∈ G.1) (he : All2 (TV fl G) vs es)
    (h : Q (.bool (decide (ds = es))) s) : wpAny (model prog w) A (compareOp .Eq (.ref a) (.ref b)) Q E s := eq_lv S nb hu hl hd hl' he _ _ _ _ h
theorem eqT {Q : Value → Shared → Prop} (S : St h₀ L s₀ m G s) (nb : NoneBooked s.heap) (hu : A.units + 1 < cLine) {a b : Addr} {us vs : List Value} {n k : Nat} {ds es : List (List Int)} (hl : (a, lstO us n) ∈ G.1) (hd : All2 (TV fl G) us ds) (hl' : (b, lstO vs k) ∈ G.1) (he : All2 (TV fl G) vs es)
    (hde : ds = es) (h : Q (.bool true) s) : wpAny (model prog w) A (compareOp .Eq (.ref a) (.ref b)) Q E s := eqL S nb hu hl hd hl' he (by rw [decide_eq_true hde]; exact h)
end
-- a block's tuple of names
section
variable {prog : Program} {w : World} {A : Around} {E : Value → Shared → Prop} {h₀ : Heap} {L : Addr} {s₀ s : Shared} {m : NMap} {G : Ctx} {env : Env} {sc : Scope} {cl : List (Str × Addr)} {C : Addr} {oC : Obj} {mc : NMap}
theorem unp2 {x1 x2 : Str} {p1 p2 pos : Pos} {k : Nat} {a : Addr} {v1 v2 : Value} {Q : Unit → Shared → Prop} (S : St h₀ L s₀ m G s) (hm : (a, tupO [v1, v2]) ∈ G.1) (hh : A.handled = none)
    (h : ∀ s', St h₀ L s₀ m G s' → wpAny (model prog w) A (assignInOrder [assign (.Name x1 p1) env, assign (.Name x2 p2) env] [v1, v2]) Q E s') :
    wpAny (model prog w) A (assign (.Tuple [.Name x1 p1, .Name x2 p2] k pos) env (.ref a)) Q E s := unp S hm hh h rfl rfl
theorem unp3 {x1 x2 x3 : Str} {p1 p2 p3 pos : Pos} {k : Nat} {a : Addr} {v1 v2 v3 : Value} {Q : Unit → Shared → Prop} (S : St h₀ L s₀ m G s) (hm : (a, tupO [v1, v2, v3]) ∈ G.1) (hh : A.handled = none)
    (h : ∀ s', St h₀ L s₀ m G s' → wpAny (model prog w) A (assignInOrder [assign (.Name x1 p1) env, assign (.Name x2 p2) env, assign (.Name x3 p3) env] [v1, v2, v3]) Q E s') :
    wpAny (model prog w) A (assign (.Tuple [.Name x1 p1, .Name x2 p2, .Name x3 p3] k pos) env (.ref a)) Q E s := unp S hm hh h rfl rfl
theorem asg2 {x1 x2 : Str} {p1 p2 pos : Pos} {k : Nat} {a : Addr} {v1 v2 : Value} {Q : Unit → Shared → Prop} (S : St h₀ L s₀ m G s) (hm : (a, tupO [v1, v2]) ∈ G.1) (hh : A.handled = none) (hC : (C, oC) ∈ G.1) (hn : IsNs oC mc)
    (h : ∀ oC' G' s', St h₀ L s₀ m G' s' → GrB [C] G G' → (C, oC') ∈ G'.1 → IsNs oC' (fun y => if y = x2 then some v2 else if y = x1 then some v1 else mc y) → Q () s')
    (hk : sc.kind = .function := by rfl) (h1 : (compEnvC sc cl C env).kindOf x1 = some .local := by rfl) (h2 : (compEnvC sc cl C env).kindOf x2 = some .local := by rfl) :
    wpAny (model prog w) A (assign (.Tuple [.Name x1 p1, .Name x2 p2] k pos) (compEnvC sc cl C env) (.ref a)) Q E s := by
  refine unp S hm hh (fun s1 S1 => ?_) rfl rfl
  show wpAny _ A (assignInOrder [assign (.Name x1 p1) (compEnvC sc cl C env), assign (.Name x2 p2) (compEnvC sc cl C env)] [v1, v2]) Q E s1
  refine assignInOrder_cons (wpAny_assign_Name (stC S1 hC hn (fun o2 G2 s2 S2 g2 hC2 hn2 => ?_) hk h1))
  refine assignInOrder_cons (wpAny_assign_Name (stC S2 hC2 hn2 (fun o3 G3 s3 S3 g3 hC3 hn3 => ?_) hk h2))
  exact assignInOrder_nil (h _ _ _ S3 (g2.trans g3) hC3 hn3)
theorem asg3 {x1 x2 x3 : Str} {p1 p2 p3 pos : Pos} {k : Nat} {a : Addr} {v1 v2 v3 : Value} {Q : Unit → Shared → Prop} (S : St h₀ L s₀ m G s) (hm : (a, tupO [v1, v2, v3]) ∈ G.1) (hh : A.handled = none) (hC : (C, oC) ∈ G.1) (hn : IsNs oC mc)
    (h : ∀ oC' G' s', St h₀ L s₀ m G' s' → GrB [C] G G' → (C, oC') ∈ G'.1 → IsNs oC' (fun y => if y = x3 then some v3 else if y = x2 then some v2 else if y = x1 then some v1 else mc y) → Q () s')
    (hk : sc.kind = .function := by rfl) (h1 : (compEnvC sc cl C env).kindOf x1 = some .local := by rfl) (h2 : (compEnvC sc cl C env).kindOf x2 = some .local := by rfl) (h3 : (compEnvC sc cl C env).kindOf x3 = some .local := by rfl) :
    wpAny (model prog w) A (assign (.Tuple [.Name x1 p1, .Name x2 p2, .Name x3 p3] k pos) (compEnvC sc cl C env) (.ref a)) Q E s := by
  refine unp S hm hh (fun s1 S1 => ?_) rfl rfl
  show wpAny _ A (assignInOrder [assign (.Name x1 p1) (compEnvC sc cl C env), assign (.Name x2 p2) (compEnvC sc cl C env), assign (.Name x3 p3) (compEnvC sc cl C env)] [v1, v2, v3]) Q E s1
  refine assignInOrder_cons (wpAny_assign_Name (stC S1 hC hn (fun o2 G2 s2 S2 g2 hC2 hn2 => ?_) hk h1))
  refine assignInOrder_cons (wpAny_assign_Name (stC S2 hC2 hn2 (fun o3 G3 s3 S3 g3 hC3 hn3 => ?_) hk h2))
  refine assignInOrder_cons (wpAny_assign_Name (stC S3 hC3 hn3 (fun o4 G4 s4 S4 g4 hC4 hn4 => ?_) hk h3))
  exact assignInOrder_nil (h _ _ _ S4 ((g2.trans g3).trans g4) hC4 hn4)
end

def Sp (w : World) (f : Addr) (vs : List Value) (d : Nat) (G : Ctx) (Post : Ctx → Value → Prop) : Prop :=
  ∀ (A : Around) (env : Env) (h₀ : Heap) (L : Addr) (s₀ : Shared) (m : NMap) (s : Shared) (Q E : Value → Shared → Prop),
    Am w A env h₀ L d → St h₀ L s₀ m G s → (∀ G' v s', St h₀ L s₀ m G' s' → Post G' v → Q v s') → wpAny (Md w) A (call (.ref f) vs) Q E s

def SpX (w : World) (f : Addr) (vs : List Value) (d : Nat) (G : Ctx) (Post : Ctx → Value → Prop) : Prop :=
  ∀ (A : Around) (env : Env) (h₀ : Heap) (L : Addr) (s₀ : Shared) (m : NMap) (s : Shared) (Q E : Value → Shared → Prop),
    Am w A env h₀ L d → St h₀ L s₀ m G s → (∀ h₀' G' v s', Tn A h₀ h₀' → Am w A env h₀' L d → St h₀' L s₀ m G' s' → Post G' v → Q v s') → wpAny (Md w) A (call (.ref f) vs) Q E s
end

-- B0b
section

theorem isFn {K : Frag} {f : Addr} {oc : Value} {od : Option Addr} {fd : FuncData} {osl : Array (Option Value)} (h : K.lookup f = some ⟨oc, od, .func fd, osl⟩) : IsFn K f := ⟨_, fd, h, rfl⟩
theorem fn_28 (P : Params) : IsFn (hd.heap_1 P) 28 := isFn (by k_is)
theorem fn_35 (P : Params) : IsFn (hd.heap_1 P) 35 := isFn (by k_is)
theorem fn_42 (P : Params) : IsFn (hd.heap_1 P) 42 := isFn (by k_is)
theorem fn_92 (P : Params) : IsFn (hd.heap_1 P) 92 := isFn (by k_is)
theorem fn_99 (P : Params) : IsFn (hd.heap_1 P) 99 := isFn (by k_is)
theorem fn_180 (P : Params) : IsFn (hd.heap_1 P) 180 := isFn (by k_is)
theorem fn_185 (P : Params) : IsFn (hd.heap_1 P) 185 := isFn (by k_is)
theorem fn_192 (P : Params) : IsFn (hd.heap_1 P) 192 := isFn (by k_is)
theorem fn_197 (P : Params) : IsFn (hd.heap_1 P) 197 := isFn (by k_is)
theorem fn_202 (P : Params) : IsFn (hd.heap_1 P) 202 := isFn (by k_is)
theorem fn_207 (P : Params) : IsFn (hd.heap_1 P) 207 := isFn (by k_is)
theorem fn_214 (P : Params) : IsFn (hd.heap_1 P) 214 := isFn (by k_is)
theorem fn_221 (P : Params) : IsFn (hd.heap_1 P) 221 := isFn (by k_is)
theorem fn_226 (P : Params) : IsFn (hd.heap_1 P) 226 := isFn (by k_is)
theorem fn_231 (P : Params) : IsFn (hd.heap_1 P) 231 := isFn (by k_is)
theorem fn_238 (P : Params) : IsFn (hd.heap_1 P) 238 := isFn (by k_is)
theorem fn_243 (P : Params) : IsFn (hd.heap_1 P) 243 := isFn (by k_is)
end

-- P1
section
abbrev P3 := Nat × Nat × Nat
abbrev ptP (p : P3) : List Int := pt p.1 p.2.1 p.2.2
abbrev colP (p : P3) : List Int := colD p.1 p.2.1 p.2.2
abbrev hsvP (p : P3) : List Int := hsvD p.1 p.2.1 p.2.2
abbrev hlsP (p : P3) : List Int := hlsD p.1 p.2.1 p.2.2
abbrev d0 : P3 := (0, 0, 0)
theorem ptP_inj {p q : P3} (h : ptP p = ptP q) : p = q := by
  obtain ⟨a, b, c⟩ := p
  obtain ⟨a', b', c'⟩ := q
  simp only [ptP, pt, List.cons.injEq, and_true] at h
  obtain ⟨h1, h2, h3⟩ := h
  have e1 : a = a' := by lia
  have e2 : b = b' := by lia
  have e3 : c = c' := by lia
  rw [e1, e2, e3]
theorem colP_inj {p q : P3} (hp : Pk p) (hq : Pk q) (h : colP p = colP q) : p = q := by
  obtain ⟨a, b, c⟩ := p
  obtain ⟨a', b', c'⟩ := q
  obtain ⟨h1, h2, h3⟩ := colD_inj hp hq h
  rw [h1, h2, h3]
theorem hsvP_inj {p q : P3} (hp : Pk p) (hq : Pk q) (h : hsvP p = hsvP q) : p = q := by
  obtain ⟨a, b, c⟩ := p
  obtain ⟨a', b', c'⟩ := q
  obtain ⟨h1, h2, h3⟩ := hsvD_inj hp hq h
  rw [h1, h2, h3]
theorem hlsP_inj {p q : P3} (hp : Pk p) (hq : Pk q) (h : hlsP p = hlsP q) : p = q := by
  obtain ⟨a, b, c⟩ := p
  obtain ⟨a', b', c'⟩ := q
  obtain ⟨h1, h2, h3⟩ := hlsD_inj hp hq h
  rw [h1, h2, h3]
theorem count_inj {α β : Type} [BEq α] [LawfulBEq α] [BEq β] [LawfulBEq β] {f : α → β} (p : α) : ∀ (l : List α), (∀ q ∈ l, f q = f p → q = p) → (l.map f).count (f p) = l.count p
  | [], _ => rfl
  | q :: l, h => by
    rw [List.map_cons, List.count_cons, List.count_cons, count_inj p l fun q hq => h q (.tail _ hq)]
    by_cases e : q = p
    · subst e; simp
    · have : f q ≠ f p := fun e' => e (h q (.head _) e')
      simp [e, this]
theorem count_pt (l : List P3) (p : P3) : (l.map ptP).count (ptP p) = l.count p := count_inj p l fun _ _ h => ptP_inj h

def unordD {α : Type} [BEq α] : List α → List α → List α × List α
  | [], act => ([], act)
  | x :: r, act => if act.contains x then unordD r (act.erase x) else (x :: (unordD r act).1, (unordD r act).2)
def lackK (ps qs : List P3) (k : Nat) : Bool := decide ((((ps.take (k + 1)).count (ps.getD k d0) : Nat) : Int) ≤ ((ps.count (ps.getD k d0) : Nat) : Int) - ((qs.count (ps.getD k d0) : Nat) : Int))
def leftK (ps qs : List P3) (k : Nat) : Bool := decide ((((ps.drop k).count (ps.getD k d0) : Nat) : Int) ≤ ((ps.count (ps.getD k d0) : Nat) : Int) - ((qs.count (ps.getD k d0) : Nat) : Int))

theorem unord_sub {α : Type} [BEq α] [LawfulBEq α] : ∀ (r act : List α), (∀ x ∈ (unordD r act).1, x ∈ r) ∧ (∀ x ∈ (unordD r act).2, x ∈ act)
  | [], act => ⟨fun x h => by simp [unordD] at h, fun x h => h⟩
  | y :: r, act => by
    simp only [unordD]
    by_cases h : act.contains y = true
    · rw [if_pos h]
      obtain ⟨a, b⟩ := unord_sub r (act.erase y)
      exact ⟨fun x hx => .tail _ (a x hx), fun x hx => List.mem_of_mem_erase (b x hx)⟩
    · rw [if_neg h]
      obtain ⟨a, b⟩ := unord_sub r act
      exact ⟨fun x hx => by rcases List.mem_cons.mp hx with rfl | hx; exact .head _; exact .tail _ (a x hx), b⟩

theorem erase_map {α β : Type} [BEq α] [LawfulBEq α] [BEq β] [LawfulBEq β] {f : α → β} (x : α) : ∀ (l : List α), (∀ q ∈ l, f q = f x → q = x) → (l.map f).erase (f x) = (l.erase x).map f
  | [], _ => rfl
  | q :: l, h => by
    rw [List.map_cons, List.erase_cons, List.erase_cons]
    by_cases e : q = x
    · subst e; simp
    · have : f q ≠ f x := fun e' => e (h q (.head _) e')
      simp [e, this, erase_map x l fun q hq => h q (.tail _ hq)]
theorem unord_map {α β : Type} [BEq α] [LawfulBEq α] [BEq β] [LawfulBEq β] {f : α → β} : ∀ (r act : List α), (∀ x ∈ r, ∀ q ∈ act, f q = f x → q = x) → unordD (r.map f) (act.map f) = ((unordD r act).1.map f, (unordD r act).2.map f)
  | [], act, _ => rfl
  | y :: r, act, h => by
    simp only [List.map_cons, unordD]
    have hc : (act.map f).contains (f y) = act.contains y := by
      rw [Bool.eq_iff_iff, List.contains_iff_mem, List.contains_iff_mem, List.mem_map]
      constructor
      · rintro ⟨q, hq, e⟩
        rw [← h y (.head _) q hq e]; exact hq
      · intro hy; exact ⟨y, hy, rfl⟩
    rw [hc]
    by_cases hy : act.contains y = true
    · rw [if_pos hy, if_pos hy, erase_map y act fun q hq => h y (.head _) q hq]
      exact unord_map r _ fun x hx q hq => h x (.tail _ hx) q (List.mem_of_mem_erase hq)
    · rw [if_neg hy, if_neg hy, unord_map r act fun x hx q hq => h x (.tail _ hx) q hq]
      rfl
theorem unord_col {ps qs : List P3} (kp : ∀ p ∈ ps, Pk p) (kq : ∀ p ∈ qs, Pk p) : unordD (ps.map colP).reverse (qs.map colP) = ((unordD ps.reverse qs).1.map colP, (unordD ps.reverse qs).2.map colP) := by
  rw [← List.map_reverse]
  exact unord_map _ _ fun x hx q hq e => colP_inj (kq q hq) (kp x (List.mem_reverse.mp hx)) e

def lacksL (ps qs : List P3) : List P3 := ((List.range ps.length).filter fun i => lackK ps qs (ps.length - 1 - i)).map fun i => ps.getD (ps.length - 1 - i) d0
def leftL (qs ps : List P3) : List P3 := ((List.range qs.length).filter (leftK qs ps)).map fun i => qs.getD i d0

theorem range_cons (n : Nat) : List.range (n + 1) = 0 :: (List.range n).map Nat.succ := by rw [List.range_succ_eq_map]
theorem pick_cons {α β : Type} (x : α) (r : List α) (d : α) (c : Nat → Bool) (g : α → β) :
    ((List.range (x :: r).length).filter c).map (fun i => g ((x :: r).getD i d)) = (if c 0 then [g x] else []) ++ ((List.range r.length).filter fun i => c (i + 1)).map (fun i => g (r.getD i d)) := by
  rw [List.length_cons, range_cons, List.filter_cons, List.filter_map]
  cases c 0 <;> simp [Function.comp_def]

def miss (qs : List P3) : List P3 → List P3 → List P3
  | [], _ => []
  | x :: r, s => if qs.count x ≤ s.count x then x :: miss qs r (x :: s) else miss qs r (x :: s)
theorem unord_miss (qs : List P3) : ∀ (r act s : List P3), (∀ x, act.count x = qs.count x - s.count x) → (unordD r act).1 = miss qs r s
  | [], _, _, _ => rfl
  | x :: r, act, s, h => by
    simp only [unordD, miss]
    by_cases hx : act.contains x = true
    · have h0 : 0 < act.count x := List.count_pos_iff.mpr (by simpa using hx)
      rw [if_pos hx, if_neg (by have := h x; lia)]
      refine unord_miss qs r _ _ fun y => ?_
      rw [List.count_erase, List.count_cons, h y]
      by_cases e : x = y
      · subst e; simp; lia
      · have e' : (x == y) = false := by simpa using e
        have e'' : (y == x) = false := by simpa using fun q => e q.symm
        simp [e', e'']
    · have h0 : act.count x = 0 := List.count_eq_zero.mpr (by simpa using hx)
      rw [if_neg hx, if_pos (by have := h x; lia)]
      show x :: (unordD r act).1 = _
      rw [unord_miss qs r act (x :: s) fun y => ?_]
      rw [List.count_cons]
      by_cases e : x = y
      · subst e; have := h x; simp; lia
      · have e' : (x == y) = false := by simpa using e
        simp [e', h y]
theorem miss_pick (qs : List P3) : ∀ (r s : List P3), miss qs r s = ((List.range r.length).filter fun i => decide (qs.count (r.getD i d0) ≤ (r.take i).count (r.getD i d0) + s.count (r.getD i d0))).map fun i => r.getD i d0
  | [], _ => rfl
  | x :: r, s => by
    rw [pick_cons x r d0 _ fun y => y]
    simp only [miss]
    rw [miss_pick qs r (x :: s)]
    have e : (fun i => decide (qs.count (r.getD i d0) ≤ (r.take i).count (r.getD i d0) + (x :: s).count (r.getD i d0))) = fun i => decide (qs.count ((x :: r).getD (i + 1) d0) ≤ ((x :: r).take (i + 1)).count ((x :: r).getD (i + 1) d0) + s.count ((x :: r).getD (i + 1) d0)) := by
      funext i
      have h1 : (x :: r).getD (i + 1) d0 = r.getD i d0 := by simp
      rw [h1, List.take_succ_cons, List.count_cons, List.count_cons]
      congr 1
      rw [Nat.add_right_comm, Nat.add_assoc]
    rw [e]
    by_cases h : qs.count x ≤ s.count x
    · simp [h]
    · simp [h]
theorem lacks_eq (ps qs : List P3) : (unordD ps.reverse qs).1 = lacksL ps qs := by
  rw [unord_miss qs ps.reverse qs [] (by simp), miss_pick]
  unfold lacksL
  rw [List.length_reverse]
  have g : ∀ i, i < ps.length → ps.reverse.getD i d0 = ps.getD (ps.length - 1 - i) d0 := fun i hi => by
    rw [List.getD_eq_getElem?_getD, List.getD_eq_getElem?_getD, List.getElem?_reverse hi]
  rw [List.filter_congr (q := fun i => lackK ps qs (ps.length - 1 - i)) fun i hi => ?_]
  · exact List.map_congr_left fun i hi => g i (List.mem_range.mp (List.mem_filter.mp hi).1)
  · have hi' := List.mem_range.mp hi
    rw [g i hi', List.take_reverse, List.count_reverse]
    unfold lackK
    rw [decide_eq_decide]
    have e : ps.length - 1 - i + 1 = ps.length - i := by lia
    rw [e]
    generalize ps.getD (ps.length - 1 - i) d0 = y
    have := List.count_append (a := y) (l₁ := ps.take (ps.length - i)) (l₂ := ps.drop (ps.length - i))
    rw [List.take_append_drop] at this
    simp only [List.count_nil]
    lia

def keepE : List P3 → (P3 → Nat) → List P3
  | [], _ => []
  | q :: l, f => if 0 < f q then keepE l (fun y => if y = q then f y - 1 else f y) else q :: keepE l f
theorem keepE_erase (x : P3) : ∀ (act : List P3) (f : P3 → Nat), keepE (act.erase x) f = keepE act (fun y => if y = x then f y + 1 else f y)
  | [], _ => rfl
  | q :: l, f => by
    rw [List.erase_cons]
    by_cases e : q = x
    · subst e
      simp only [beq_self_eq_true, if_true, keepE]
      rw [if_pos (Nat.succ_pos _)]
      congr 1
      funext y
      by_cases h : y = q <;> simp [h]
    · have e' : (q == x) = false := by simpa using e
      rw [e']
      simp only [Bool.false_eq_true, if_false, keepE, if_neg e]
      by_cases h : 0 < f q
      · rw [if_pos h, if_pos h, keepE_erase x l]
        congr 1
        funext y
        by_cases h1 : y = x
        · subst h1
          have : ¬ y = q := fun k => e k.symm
          simp [this]
        · by_cases h2 : y = q <;> simp [h1, h2, e]
      · rw [if_neg h, if_neg h, keepE_erase x l]
theorem keepE_zero : ∀ (l : List P3), keepE l (fun _ => 0) = l
  | [] => rfl
  | q :: l => by simp only [keepE]; rw [if_neg (by lia), keepE_zero l]
theorem unord_keep : ∀ (r act : List P3), (unordD r act).2 = keepE act (fun y => r.count y)
  | [], act => by simp only [unordD, List.count_nil]; exact (keepE_zero act).symm
  | x :: r, act => by
    have h1 : (unordD (x :: r) act).2 = (unordD r (act.erase x)).2 := by
      simp only [unordD]
      by_cases hx : act.contains x = true
      · rw [if_pos hx]
      · rw [if_neg hx, List.erase_of_not_mem (by simpa using hx)]
    rw [h1, unord_keep r, keepE_erase]
    congr 1
    funext y
    rw [List.count_cons]
    by_cases h : y = x
    · subst h; simp
    · have : (x == y) = false := by simpa using fun k => h k.symm
      simp [h, this]
theorem keepE_pick : ∀ (l : List P3) (f : P3 → Nat), keepE l f = ((List.range l.length).filter fun i => decide (f (l.getD i d0) ≤ (l.take i).count (l.getD i d0))).map fun i => l.getD i d0
  | [], _ => rfl
  | q :: l, f => by
    rw [pick_cons q l d0 _ fun y => y]
    simp only [keepE]
    by_cases h : 0 < f q
    · rw [if_pos h, keepE_pick l]
      have e : (fun i => decide ((if l.getD i d0 = q then f (l.getD i d0) - 1 else f (l.getD i d0)) ≤ (l.take i).count (l.getD i d0))) = fun i => decide (f ((q :: l).getD (i + 1) d0) ≤ ((q :: l).take (i + 1)).count ((q :: l).getD (i + 1) d0)) := by
        funext i
        have h1 : (q :: l).getD (i + 1) d0 = l.getD i d0 := by simp
        rw [h1, List.take_succ_cons, List.count_cons]
        generalize l.getD i d0 = y
        rw [decide_eq_decide]
        by_cases h2 : y = q
        · subst h2; first | (simp; done) | (simp; lia)
        · have : (q == y) = false := by simpa using fun k => h2 k.symm
          simp [h2, this]
      rw [e]
      have h0 : ¬ f q ≤ 0 := by lia
      simp [h0]
    · rw [if_neg h, keepE_pick l]
      have e : (fun i => decide (f (l.getD i d0) ≤ (l.take i).count (l.getD i d0))) = fun i => decide (f ((q :: l).getD (i + 1) d0) ≤ ((q :: l).take (i + 1)).count ((q :: l).getD (i + 1) d0)) := by
        funext i
        have h1 : (q :: l).getD (i + 1) d0 = l.getD i d0 := by simp
        rw [h1, List.take_succ_cons, List.count_cons]
        generalize l.getD i d0 = y
        rw [decide_eq_decide]
        by_cases h2 : y = q
        · subst h2; first | (simp; done) | (simp; lia)
        · have : (q == y) = false := by simpa using fun k => h2 k.symm
          simp [this]
      rw [e]
      have h0 : f q ≤ 0 := by lia
      simp [h0]
theorem left_eq (ps qs : List P3) : (unordD ps.reverse qs).2 = leftL qs ps := by
  rw [unord_keep, keepE_pick]
  unfold leftL
  congr 1
  refine List.filter_congr fun i hi => ?_
  unfold leftK
  rw [decide_eq_decide, List.count_reverse]
  generalize qs.getD i d0 = y
  have := List.count_append (a := y) (l₁ := qs.take i) (l₂ := qs.drop i)
  rw [List.take_append_drop] at this
  lia
end

-- C5
section

theorem good_inf {x : UInt64} (h : good x = true) : Float64.isInf x = false := by
  have h' : x.toNat < Float64.infMag := of_decide_eq_true h
  unfold Float64.isInf
  rw [decode_good h']
  by_cases q : x.toNat / 2 ^ 52 = 0
  · rw [if_pos q]
  · rw [if_neg q]
section
variable {prog : Program} {w : World} {A : Around} {E : Value → Shared → Prop} {h₀ : Heap} {L : Addr} {s₀ s : Shared} {m : NMap} {Q : Value → Shared → Prop} {t u : Nat}
theorem fDivN {Ld : Led} {Tk : Tks} {a b : Int} (S : St h₀ L s₀ m (Ld, Tk) s) (hab : 0 ≤ a ∧ 0 < b) (hi : Float64.isInf (Float64.ofFrac false a.toNat b.toNat) = false)
    (h : ∀ t s', St h₀ L s₀ m (Ld, (t, Float64.ofFrac false a.toNat b.toNat) :: Tk) s' → Q (.float (Float64.ofFrac false a.toNat b.toNat) t) s') :
    wpAny (model prog w) A (binaryOp .Div (.int a t) (.int b u)) Q E s := by
  have e : Float64.ofFrac (decide (a < 0) != decide (b < 0)) a.natAbs b.natAbs = Float64.ofFrac false a.toNat b.toNat := by
    rw [decide_eq_false (by lia : ¬ a < 0), decide_eq_false (by lia : ¬ b < 0), show a.natAbs = a.toNat by lia, show b.natAbs = b.toNat by lia]; rfl
  refine fDivII S (by simp; lia) (by rw [e]; exact hi) ?_
  rw [e]; exact h
end
def Imp {α : Type} (Q Q' : α → Shared → Prop) : Prop := ∀ v s, Q v s → Q' v s
theorem Imp.go {α : Type} {Q Q' : α → Shared → Prop} (h : Imp Q Q') {v : α} {s : Shared} (x : Q v s) : Q' v s := h v s x
theorem wpGen {α : Type} {M : Model} {A : Around} {T : Sem α} {Q : α → Shared → Prop} {E : Value → Shared → Prop} {s : Shared} (h : ∀ Q', Imp Q Q' → wpAny M A T Q' E s) : wpAny M A T Q E s := h Q fun _ _ x => x
theorem wpGenE {α : Type} {M : Model} {A : Around} {T : Sem α} {Q : α → Shared → Prop} {E : Value → Shared → Prop} {s : Shared} (h : ∀ E', Imp E E' → wpAny M A T Q E' s) : wpAny M A T Q E s := h E fun _ _ x => x
theorem All2.cons_inv {α β : Type} {R : α → β → Prop} {xs : List α} {y : β} {ys : List β} (h : All2 R xs (y :: ys)) : ∃ x r, xs = x :: r ∧ R x y ∧ All2 R r ys := by
  cases h with | cons a b => exact ⟨_, _, rfl, a, b⟩
theorem All2.nil_inv {α β : Type} {R : α → β → Prop} {xs : List α} (h : All2 R xs ([] : List β)) : xs = [] := by
  cases h; rfl
theorem TV3inv {G : Ctx} {v : Value} {b1 b2 b3 : UInt64} (h : TV true G v [(b1.toNat : Int), (b2.toNat : Int), (b3.toNat : Int)]) :
    ∃ a t1 t2 t3, v = .ref a ∧ (a, tupO [.float b1 t1, .float b2 t2, .float b3 t3]) ∈ G.1 ∧ (t1, b1) ∈ G.2 ∧ (t2, b2) ∈ G.2 ∧ (t3, b3) ∈ G.2 := by
  obtain ⟨a, xs, rfl, ha, hx⟩ := h
  obtain ⟨_, _, rfl, ⟨c1, t1, e1, m1, _, q1⟩, hx⟩ := hx.cons_inv
  obtain ⟨_, _, rfl, ⟨c2, t2, e2, m2, _, q2⟩, hx⟩ := hx.cons_inv
  obtain ⟨_, _, rfl, ⟨c3, t3, e3, m3, _, q3⟩, hx⟩ := hx.cons_inv
  obtain rfl := hx.nil_inv
  subst e1; subst e2; subst e3
  obtain rfl := toNat_inj q1
  obtain rfl := toNat_inj q2
  obtain rfl := toNat_inj q3
  exact ⟨a, t1, t2, t3, rfl, ha, m1, m2, m3⟩
theorem TV3invI {G : Ctx} {v : Value} {i j k : Int} (h : TV false G v [i, j, k]) : ∃ a t1 t2 t3, v = .ref a ∧ (a, tupO [.int i t1, .int j t2, .int k t3]) ∈ G.1 := by
  obtain ⟨a, xs, rfl, ha, hx⟩ := h
  obtain ⟨_, _, rfl, ⟨t1, e1⟩, hx⟩ := hx.cons_inv
  obtain ⟨_, _, rfl, ⟨t2, e2⟩, hx⟩ := hx.cons_inv
  obtain ⟨_, _, rfl, ⟨t3, e3⟩, hx⟩ := hx.cons_inv
  obtain rfl := hx.nil_inv
  subst e1; subst e2; subst e3
  exact ⟨a, t1, t2, t3, rfl, ha⟩
theorem All2.at {α β : Type} {R : α → β → Prop} {xs : List α} {ys : List β} (h : All2 R xs ys) {i : Nat} {x : α} (e : xs[i]? = some x) : ∃ y, ys[i]? = some y ∧ R x y := h.getq' e
end

theorem none_and {p : Prop} (h : p) : (Value.none = Value.none) ∧ p := And.intro rfl h
local macro_rules | `(tactic| walk_at "b1") => `(tactic| (exact rfl))
local macro_rules | `(tactic| walk_at "b2") => `(tactic| (with_reducible assumption))
local macro_rules | `(tactic| walk_at "b3") => `(tactic| (with_unfolding_all rfl))
local macro_rules | `(tactic| walk_at "b4") => `(tactic| walk_at "mm")
local macro_rules | `(tactic| walk_at "b5") => `(tactic| (exact Amb.nbAt (by with_reducible assumption) (by with_reducible assumption)))
local macro_rules | `(tactic| walk_at "b6") => `(tactic| (exact Amb.units1 (by with_reducible assumption)))
local macro_rules | `(tactic| walk_at "b7") => `(tactic| (exact Amb.hh (by with_reducible assumption)))
local macro_rules | `(tactic| walk_at "b8") => `(tactic| (first | exact rfl | with_reducible assumption | assumption))
local macro_rules | `(tactic| walk_at "b9") => `(tactic| (decide))
local macro_rules | `(tactic| walk_at "b10") => `(tactic| (boot_fast))
local macro_rules | `(tactic| walk_at "b11") => `(tactic| (first | with_reducible assumption | assumption))
local macro_rules | `(tactic| walk_at "b12") => `(tactic| (exact .cons NV.int (.cons NV.int .nil)))
local macro_rules | `(tactic| walk_at "b13") => `(tactic| (intro _ _; exact rfl))
local macro_rules | `(tactic| walk_at "b14") => `(tactic| (first | with_reducible assumption | omega))
local macro_rules | `(tactic| walk_at "b15") => `(tactic| (omega))
local macro_rules | `(tactic| walk_at "b16") => `(tactic| (intro _; exact rfl))
local macro_rules | `(tactic| walk_at "b17") => `(tactic| (exact Nat.le_of_ble_eq_true rfl))
local macro_rules | `(tactic| walk_at "b18") => `(tactic| (first | with_reducible assumption | exact z6 | exact z1 | exact z2))
local macro_rules | `(tactic| walk_at "b19") => `(tactic| (first | assumption | exact rfl))
local macro_rules | `(tactic| walk_at "b20") => `(tactic| (assumption))
local macro_rules | `(tactic| walk_at "b21") => `(tactic| (first | omega | exact ⟨by decide, by decide⟩))
local macro_rules | `(tactic| walk_at "b22") => `(tactic| (first | decide | assumption))
local macro_rules | `(tactic| walk_at "b23") => `(tactic| (first | with_reducible assumption | exact rfl))
/-- one way of the walk, from its row: a lemma, its holes, what closes them -/
def goAlt (r : String) : Lean.MacroM (Lean.TSyntax `tactic) := do
  let (a, b) := match r.splitOn " / " with
    | [a, b] => (a.splitOn " ", b.splitOn " ")
    | _ => (r.splitOn " ", [])
  let f := Lean.mkIdent (a.headD "").toName
  let hs ← a.tail.toArray.mapM fun (h : String) => if h == "_" then `(term| ?_) else if h == "pl" then `(term| ?pl) else let i := Lean.mkIdent ("gq" ++ h).toName; `(term| ?$i)
  let mut t ← if a.tail.all (· == "_") then `(tactic| with_reducible refine $f $hs*) else `(tactic| with_reducible refine' $f $hs*)
  for c in b do
    let s := Lean.Syntax.mkStrLit c
    t ← if c.startsWith "I:" then do
        let k ← Lean.MonadQuotation.getCurrMacroScope
        let xs := ((c.drop 2).toString.splitOn ",").toArray.map fun (x : String) => Lean.mkIdent (if x.startsWith "!" then .str .anonymous s!"l{k}" else .num (.str (.str (.str .anonymous x) "_@") "_hyg") 1)
        `(tactic| ($t:tactic; intro $[$xs:ident]*))
      else if c.contains ':' then do
        let i := Lean.mkIdent ("gq" ++ (c.splitOn ":").head!).toName
        let b := (c.splitOn ":")[1]!
        let b ← if b.contains ',' then do
            let xs ← (b.splitOn ",").toArray.mapM fun (x : String) => let x := Lean.mkIdent x.toName; `(tactic| exact $x _)
            `(tactic| first $[| $xs:tactic]*)
          else let b := Lean.Syntax.mkStrLit b; `(tactic| walk_at $b:str)
        `(tactic| ($t:tactic; case $i:ident => $b:tactic))
      else if c == "ib" then `(tactic| ($t:tactic <;> intro hb)) else `(tactic| ($t:tactic; walk_at $s:str))
  return t
local macro_rules
  | `(tactic| walk_at "go") => do
    let ts ← ("wpAny_execs_cons _\nwpAny_execs_nil _\nwpAny_Assign_Name _ hs / hs:b1\nwpAny_Assign_two _ he hw / he:b1 hw:b1\nwpAny_AugAssign_Name _\niAug S _ / S:b2 I:t,s,S\nwpAny_Break _\nwpAny_Constant_bool _\nwpAny_Return_some _\nwpAny_If _\nwpAny_BinOp _\nwpAny_Compare1 _ hm / hm:b3\nwpAny_isTrue_Compare1 _ hm / hm:b3\nwpAny_isTrue_Not _\nwpAny_isTrue_BoolOp _\nwpAny_isTrue_value _ hm / hm:b3\nwpAny_truthy_bool _\nIfExp_ _\nTuple_ _\nList_ _\nBoolOp_and _\nwpAny_allTrue_And_cons _\nwpAny_allTrue_And_nil _\nBoolOp_one _\nmeth _ pl he he2 hp / he:b1 he2:b1 hp:b1\nmeth0 _ pl he / he:b1\ngm_count S hm _ / S:b2 hm:b4\ngm_index S hm _ / S:b2 hm:b4\ngm_append S hm _ / S:b2 hm:b4\ngm_remove S hm _ / S:b2 hm:b4\ngm_pop S hm _ / S:b2 hm:b4\ngm_extend S hm _ / S:b2 hm:b4\ncount_tv S nb hu hl hd he _ / S:b2 nb:b5 hu:b6 hl:b4 hd:b2 he:b2 I:t,s,S\nCall_ _ he / he:b1\nPyProof.Rows.callWith_builtin1 _ he hp / he:b1 hp:b1\nPyProof.Rows.callWith_type1 _ he hp / he:b1 hp:b1\nfInt hh S hx _ / hh:b7 S:b2 hx:b2 I:t,s,S\nargs_cons _ he / he:b1\nargs_nil _\nldL S hv _ hk hx / S:b2 hk:b1 hx:b1 hv:b8\nnmL S hv _ hk hx hd / S:b2 hk:b1 hx:b1 hd:b9 hv:b8\nnmB am S e hv _ hn hk hx hd / am:b2 S:b2 hk:b1 hx:b1 hd:b9 hn:b9 e:k_max,k_min,k_int,k_len,k_list,k_range,k_enumerate,k_sorted,k_object,k_tuple hv:b10\nnmO' S hm hn hv _ hk hx hd / S:b2 hn:b2 hm:b4 hk:b1 hx:b1 hd:b9 hv:b1\nnmC S hm hd _ hc hk hx hb / hc:b1 S:b2 hk:b1 hx:b1 hb:b9 hm:b4 hd:b11\nin_iv S nb hl hd _ / S:b2 nb:b5 hl:b4 hd:b12\nAssign_Tuple _ hs hw / hs:b1 hw:b1\nAssign_Tuple_swapped _ hs hw / hs:b1 hw:b1\nunp3 S hm hh _ / S:b2 hh:b7 hm:b4 I:s,S\nunp2 S hm hh _ / S:b2 hh:b7 hm:b4 I:s,S\nunpI S hm hh hn _ / S:b2 hh:b7 hm:b4 hn:b1 I:s,S\nassignInOrder_nil _\nassignInOrder_cons _\nbindName_ _\niLe _\niLt _\niNe _\ntInt _\nwpAny_Try_except _\nexDoc S _ hi hs / S:b2 hi:b1 hs:b1 I:s,S\nexN _ hi hs / hi:b1 hs:b1\nl_app S hm hz _ / S:b2 hm:b4 hz:b2 I:G,s,S,gB,hD\nnone_and _\ngTo _ ht / ht:b13\ngFrom _ ht / ht:b13\nslTo S hm hz h0 _ / S:b2 hm:b4 hz:b14 h0:b15 I:D,D',o',s,S,hf\nslFrom S hm hz h0 _ / S:b2 hm:b4 hz:b14 h0:b15 I:D,D',o',s,S,hf\nSubscript_ _\ngIt S hm h0 hfit hx _ hs / S:b2 hm:b4 hs:b3 h0:b15 hfit:b15 hx:b2\ncLen S hm hz _ / S:b2 hm:b4 hz:b14 I:t,s,S\ncCopy S hm hz _ / S:b2 hm:b4 hz:b14 I:D,c,s,S,hf\nc_rng1 S _ / S:b2 I:r,t,u,v,s,S\nc_rng2 S _ / S:b2 I:r,t,u,v,s,S\nc_rng3 S hc _ / S:b2 hc:b9 I:r,t,u,v,s,S\nwpAny_UnaryOp _\niNeg S _ / S:b2 I:t,s,S\ncompA hsw hclos hcell hkind hnames _ hk hx hs / hsw:b1 hclos:b1 hcell:b9 hkind:b1 hnames:b9 hk:b1 hx:b1 hs:b16\ncompE hclos hcell hkind hnames _ hs / hclos:b1 hcell:b9 hkind:b1 hnames:b9 hs:b16\nwpAny_is_ref_self _\ntests_nil _\ntests_one _\nwpAny_assign_Name _\nstC S hm hn _ hk hx / S:b2 hn:b2 hm:b4 hk:b1 hx:b1 I:oC,G,s,S,gB,hC,hN\nnmK am S e _ hg hk hx hd / am:b2 S:b2 hx:b1 hg:b1 hk:b1 hd:b9 e:g_28,g_35,g_42,g_92,g_99,g_180,g_185,g_192,g_197,g_202,g_207,g_214,g_221,g_226,g_231,g_238,g_243,g_170\ncDef am hf _ he / am:b2 he:b1 hf:fn_28,fn_35,fn_42,fn_92,fn_99,fn_180,fn_185,fn_192,fn_197,fn_202,fn_207,fn_214,fn_221,fn_226,fn_231,fn_238,fn_243\nstM S _ hk hx / S:b2 hk:b1 hx:b1 I:s,!m,S\ncInt S _ / S:b2 I:t,s,S\ncFlt S _ / S:b2 I:t,s,S\ndTup S _ hz / S:b2 hz:b17 I:a,s,S,hn\ndLst S _ hz / S:b2 hz:b17 I:a,s,S,hn\nfMax hh S m1 m2 m3 _ / hh:b7 S:b2 m1:b4 m2:b4 m3:b4 I:t,s,S,mt\nfMin hh S m1 m2 m3 _ / hh:b7 S:b2 m1:b4 m2:b4 m3:b4 I:t,s,S,mt\nlAdd S _ / S:b2 I:t,s,!x,S\nlSub S _ / S:b2 I:t,s,!x,S\nlMul S _ / S:b2 I:t,s,!x,S\nlDiv S hb _ / S:b2 hb:b18 I:t,s,!x,S\nlMod S hb _ / S:b2 hb:b18 I:t,s,!x,S\nlSubI S hb _ / S:b2 hb:b19 I:t,s,!x,S\nfDivN S hb hi _ / S:b2 hb:b15 hi:b20 I:t,s,S\nfEq _\nfLe _\niEq _\niAdd S _ / S:b2 I:t,s,S\niSub S _ / S:b2 I:t,s,S\niMul S hb _ / S:b2 hb:b21 I:t,s,S\niMod S hb _ / S:b2 hb:b22 I:t,s,S\niFdv S hb _ / S:b2 hb:b22 I:t,s,S\nite_of_true hc _ / hc:b23\nite_of_false hc _ / hc:b23\nPyProof.Rows.split_bool _ _ / ib\nImp.go i _ / i:b2".splitOn "\n").toArray.mapM fun r => goAlt r
    `(tactic| first $[| $ts:tactic]* | dsimp only)

-- B1
section

theorem good_lt {x : UInt64} (h : good x = true) : x.toNat < Float64.infMag := of_decide_eq_true h
theorem TV3 {G : Ctx} {a : Addr} {b1 b2 b3 c1 c2 c3 : UInt64} {t1 t2 t3 : Nat} (h : (a, tupO [.float b1 t1, .float b2 t2, .float b3 t3]) ∈ G.1) (e1 : c1 = b1) (e2 : c2 = b2) (e3 : c3 = b3)
    (m1 : (t1, b1) ∈ G.2) (m2 : (t2, b2) ∈ G.2) (m3 : (t3, b3) ∈ G.2) (g1 : good c1 = true) (g2 : good c2 = true) (g3 : good c3 = true) : TV true G (.ref a) [(c1.toNat : Int), (c2.toNat : Int), (c3.toNat : Int)] := by
  subst e1; subst e2; subst e3
  exact ⟨a, _, rfl, h, .cons (NV.flt m1 (good_lt g1)) (.cons (NV.flt m2 (good_lt g2)) (.cons (NV.flt m3 (good_lt g3)) .nil))⟩
theorem and_t {a b : Bool} (h : (a && b) = true) : a = true ∧ b = true := by simpa using h
theorem not_t {a : Bool} (h : (!a) = true) : a = false := by simpa using h

section
variable {r g b : UInt64}
abbrev partF (r g b x : UInt64) : UInt64 := Float64.div (Float64.sub (max3F r g b) x) (Float64.sub (max3F r g b) (min3F r g b))
theorem hueA (h : (Float64.cmp r (max3F r g b) == some Ordering.eq) = true) : hueF r g b = (Float64.divmod (Float64.div (Float64.sub (partF r g b b) (partF r g b g)) 4618441417868443648) 4607182418800017408).2 := by
  have h' : eqF r (max3F r g b) = true := h
  unfold hueF; rw [h']; rfl
theorem hueB (h : (Float64.cmp r (max3F r g b) == some Ordering.eq) = false) (k : (Float64.cmp g (max3F r g b) == some Ordering.eq) = true) :
    hueF r g b = (Float64.divmod (Float64.div (Float64.sub (Float64.add 4611686018427387904 (partF r g b r)) (partF r g b b)) 4618441417868443648) 4607182418800017408).2 := by
  have h' : eqF r (max3F r g b) = false := h
  have k' : eqF g (max3F r g b) = true := k
  unfold hueF; rw [h', k']; rfl
theorem hueC (h : (Float64.cmp r (max3F r g b) == some Ordering.eq) = false) (k : (Float64.cmp g (max3F r g b) == some Ordering.eq) = false) :
    hueF r g b = (Float64.divmod (Float64.div (Float64.sub (Float64.add 4616189618054758400 (partF r g b g)) (partF r g b r)) 4618441417868443648) 4607182418800017408).2 := by
  have h' : eqF r (max3F r g b) = false := h
  have k' : eqF g (max3F r g b) = false := k
  unfold hueF; rw [h', k']; rfl
abbrev lumL (r g b : UInt64) : UInt64 := Float64.div (Float64.add (max3F r g b) (min3F r g b)) 4611686018427387904
theorem satA (h : (Float64.cmp (lumL r g b) 4602678819172646912 == some Ordering.lt || Float64.cmp (lumL r g b) 4602678819172646912 == some Ordering.eq) = true) :
    satL r g b = Float64.div (Float64.sub (max3F r g b) (min3F r g b)) (Float64.add (max3F r g b) (min3F r g b)) := by
  have h' : leF (lumF r g b) fh = true := h
  unfold satL; rw [if_pos h']; rfl
theorem satB (h : (Float64.cmp (lumL r g b) 4602678819172646912 == some Ordering.lt || Float64.cmp (lumL r g b) 4602678819172646912 == some Ordering.eq) = false) :
    satL r g b = Float64.div (Float64.sub (max3F r g b) (min3F r g b)) (Float64.sub (Float64.sub 4611686018427387904 (max3F r g b)) (min3F r g b)) := by
  have h' : leF (lumF r g b) fh = false := h
  unfold satL; rw [h']; rfl
end

set_option maxHeartbeats 1000000 in
theorem sp_hsv {w : World} {d : Nat} {G : Ctx} {r g b : UInt64} {t1 t2 t3 : Nat} (m1 : (t1, r) ∈ G.2) (m2 : (t2, g) ∈ G.2) (m3 : (t3, b) ∈ G.2) (ok : hsvOk r g b = true) :
    Sp w 35 [.float r t1, .float g t2, .float b t3] (d + 1) G (fun G' v => Gr G G' ∧ TV true G' v [((hueF r g b).toNat : Int), ((satV r g b).toNat : Int), ((max3F r g b).toNat : Int)]) := by
  obtain ⟨Ld, Tk⟩ := G
  intro A env h₀ L s₀ m s Q E am S hQ
  dsimp only at m1 m2 m3
  unfold hsvOk at ok
  obtain ⟨ok, o6⟩ := and_t ok
  obtain ⟨ok, o5⟩ := and_t ok
  obtain ⟨ok, o4⟩ := and_t ok
  obtain ⟨ok, o3⟩ := and_t ok
  obtain ⟨o1, o2⟩ := and_t ok
  replace o1 := not_t o1
  replace o2 := not_t o2
  replace o3 := not_t o3
  unfold eqF at o1
  unfold rangeF at o3
  refine' enterL (binds := [(Str.ofString "r", .float r t1), (Str.ofString "g", .float g t2), (Str.ofString "b", .float b t3)]) am S ?ho ?hc ?hb ?hl ?c1 ?c2 ?c3 ?c4 _ ?_ hQ
  case ho => k_is
  case hc => k_is
  case hb => exact BindsTo.of_eq rfl
  case hl => exact locs rfl
  case c1 => exact rfl
  case c2 => exact rfl
  case c3 => exact rfl
  case c4 => decide
  intro g' L' s₁ env' A' m' am' S₁
  clear S hQ am
  try with_reducible refine wpGen fun Qg1 ig1 => ?_
  repeat' (walk_at "go")
  all_goals (refine ⟨_, _, by with_reducible assumption, ⟨?_, ?_⟩, ?_⟩)
  all_goals first
    | (intro p hp; walk_at "mm"; done)
    | skip
  all_goals refine TV3 (by walk_at "mm") ?_ (by exact rfl) (by exact rfl) (by walk_at "mm") (by walk_at "mm") (by walk_at "mm") o4 o5 o6
  all_goals first | exact hueA (by with_reducible assumption) | exact hueB (by with_reducible assumption) (by with_reducible assumption) | exact hueC (by with_reducible assumption) (by with_reducible assumption)

set_option maxHeartbeats 1000000 in
theorem sp_hls {w : World} {d : Nat} {G : Ctx} {r g b : UInt64} {t1 t2 t3 : Nat} (m1 : (t1, r) ∈ G.2) (m2 : (t2, g) ∈ G.2) (m3 : (t3, b) ∈ G.2) (ok : hlsOk r g b = true) :
    Sp w 28 [.float r t1, .float g t2, .float b t3] (d + 1) G (fun G' v => Gr G G' ∧ TV true G' v [((hueF r g b).toNat : Int), ((lumF r g b).toNat : Int), ((satL r g b).toNat : Int)]) := by
  obtain ⟨Ld, Tk⟩ := G
  intro A env h₀ L s₀ m s Q E am S hQ
  dsimp only at m1 m2 m3
  unfold hlsOk at ok
  obtain ⟨ok, o6⟩ := and_t ok
  obtain ⟨ok, o5⟩ := and_t ok
  obtain ⟨ok, o4⟩ := and_t ok
  obtain ⟨ok, o7⟩ := and_t ok
  obtain ⟨ok, o3⟩ := and_t ok
  obtain ⟨o1, o2⟩ := and_t ok
  replace o1 := not_t o1
  replace o2 := not_t o2
  replace o3 := not_t o3
  replace o7 := not_t o7
  unfold eqF at o1
  unfold rangeF at o2
  unfold f2 at o7
  refine' enterL (binds := [(Str.ofString "r", .float r t1), (Str.ofString "g", .float g t2), (Str.ofString "b", .float b t3)]) am S ?ho ?hc ?hb ?hl ?c1 ?c2 ?c3 ?c4 _ ?_ hQ
  case ho => k_is
  case hc => k_is
  case hb => exact BindsTo.of_eq rfl
  case hl => exact locs rfl
  case c1 => exact rfl
  case c2 => exact rfl
  case c3 => exact rfl
  case c4 => decide
  intro g' L' s₁ env' A' m' am' S₁
  clear S hQ am
  try with_reducible refine wpGen fun Qg2 ig2 => ?_
  repeat' (walk_at "go")
  all_goals (refine ⟨_, _, by with_reducible assumption, ⟨?_, ?_⟩, ?_⟩)
  all_goals first
    | (intro p hp; walk_at "mm"; done)
    | skip
  all_goals refine TV3 (by walk_at "mm") ?_ (by exact rfl) ?_ (by walk_at "mm") (by walk_at "mm") (by walk_at "mm") o4 o5 o6
  all_goals first | exact hueA (by with_reducible assumption) | exact hueB (by with_reducible assumption) (by with_reducible assumption) | exact hueC (by with_reducible assumption) (by with_reducible assumption) | exact satA (by with_reducible assumption) | exact satB (by with_reducible assumption)

section
variable {h s v : UInt64}
abbrev frL (h : UInt64) : UInt64 := Float64.sub (Float64.mul h 4618441417868443648) (Float64.ofInt (toI (Float64.mul h 4618441417868443648)))
abbrev pL (s v : UInt64) : UInt64 := Float64.mul v (Float64.sub 4607182418800017408 s)
abbrev qL (h s v : UInt64) : UInt64 := Float64.mul v (Float64.sub 4607182418800017408 (Float64.mul s (frL h)))
abbrev tL (h s v : UInt64) : UInt64 := Float64.mul v (Float64.sub 4607182418800017408 (Float64.mul s (Float64.sub 4607182418800017408 (frL h))))
abbrev iL (h : UInt64) : Int := toI (Float64.mul h 4618441417868443648) % 6
theorem rgbF_eq : rgbF h s v = if iL h = 0 then (v, tL h s v, pL s v) else if iL h = 1 then (qL h s v, v, pL s v) else if iL h = 2 then (pL s v, v, tL h s v) else if iL h = 3 then (pL s v, qL h s v, v) else if iL h = 4 then (tL h s v, pL s v, v) else (v, pL s v, qL h s v) := rfl
theorem rgb_0 (h0 : (iL h == 0) = true) : rgbF h s v = (v, (tL h s v), (pL s v)) := by
  rw [rgbF_eq]
  rw [if_pos (of_decide_eq_true h0)]
theorem rgb_1 (h0 : (iL h == 0) = false) (h1 : (iL h == 1) = true) : rgbF h s v = ((qL h s v), v, (pL s v)) := by
  rw [rgbF_eq]
  rw [if_neg (of_decide_eq_false h0)]
  rw [if_pos (of_decide_eq_true h1)]
theorem rgb_2 (h0 : (iL h == 0) = false) (h1 : (iL h == 1) = false) (h2 : (iL h == 2) = true) : rgbF h s v = ((pL s v), v, (tL h s v)) := by
  rw [rgbF_eq]
  rw [if_neg (of_decide_eq_false h0)]
  rw [if_neg (of_decide_eq_false h1)]
  rw [if_pos (of_decide_eq_true h2)]
theorem rgb_3 (h0 : (iL h == 0) = false) (h1 : (iL h == 1) = false) (h2 : (iL h == 2) = false) (h3 : (iL h == 3) = true) : rgbF h s v = ((pL s v), (qL h s v), v) := by
  rw [rgbF_eq]
  rw [if_neg (of_decide_eq_false h0)]
  rw [if_neg (of_decide_eq_false h1)]
  rw [if_neg (of_decide_eq_false h2)]
  rw [if_pos (of_decide_eq_true h3)]
theorem rgb_4 (h0 : (iL h == 0) = false) (h1 : (iL h == 1) = false) (h2 : (iL h == 2) = false) (h3 : (iL h == 3) = false) (h4 : (iL h == 4) = true) : rgbF h s v = ((tL h s v), (pL s v), v) := by
  rw [rgbF_eq]
  rw [if_neg (of_decide_eq_false h0)]
  rw [if_neg (of_decide_eq_false h1)]
  rw [if_neg (of_decide_eq_false h2)]
  rw [if_neg (of_decide_eq_false h3)]
  rw [if_pos (of_decide_eq_true h4)]
theorem rgb_5 (h0 : (iL h == 0) = false) (h1 : (iL h == 1) = false) (h2 : (iL h == 2) = false) (h3 : (iL h == 3) = false) (h4 : (iL h == 4) = false) (h5 : (iL h == 5) = true) : rgbF h s v = (v, (pL s v), (qL h s v)) := by
  rw [rgbF_eq]
  rw [if_neg (of_decide_eq_false h0)]
  rw [if_neg (of_decide_eq_false h1)]
  rw [if_neg (of_decide_eq_false h2)]
  rw [if_neg (of_decide_eq_false h3)]
  rw [if_neg (of_decide_eq_false h4)]
theorem rgb_6 (h0 : (iL h == 0) = false) (h1 : (iL h == 1) = false) (h2 : (iL h == 2) = false) (h3 : (iL h == 3) = false) (h4 : (iL h == 4) = false) (h5 : (iL h == 5) = false) : False := by
  have e : ∀ j : Int, (iL h == j) = false → iL h ≠ j := fun j hj => of_decide_eq_false hj
  have := e _ h0; have := e _ h1; have := e _ h2; have := e _ h3; have := e _ h4; have := e _ h5
  have q : iL h = toI (Float64.mul h 4618441417868443648) % 6 := rfl
  lia
end
theorem TV3t {G : Ctx} {a : Addr} {b1 b2 b3 : UInt64} {x : UInt64 × UInt64 × UInt64} {t1 t2 t3 : Nat} (h : (a, tupO [.float b1 t1, .float b2 t2, .float b3 t3]) ∈ G.1) (e : x = (b1, b2, b3))
    (m1 : (t1, b1) ∈ G.2) (m2 : (t2, b2) ∈ G.2) (m3 : (t3, b3) ∈ G.2) (g1 : good x.1 = true) (g2 : good x.2.1 = true) (g3 : good x.2.2 = true) : TV true G (.ref a) [(x.1.toNat : Int), (x.2.1.toNat : Int), (x.2.2.toNat : Int)] := by
  subst e
  exact TV3 h rfl rfl rfl m1 m2 m3 g1 g2 g3
set_option maxHeartbeats 1000000 in
theorem sp_rgb {w : World} {d : Nat} {G : Ctx} {h s v : UInt64} {t1 t2 t3 : Nat} (m1 : (t1, h) ∈ G.2) (m2 : (t2, s) ∈ G.2) (m3 : (t3, v) ∈ G.2) (ok : rgbOk h s v = true) :
    Sp w 42 [.float h t1, .float s t2, .float v t3] (d + 1) G (fun G' x => Gr G G' ∧ TV true G' x [((rgbF h s v).1.toNat : Int), ((rgbF h s v).2.1.toNat : Int), ((rgbF h s v).2.2.toNat : Int)]) := by
  obtain ⟨Ld, Tk⟩ := G
  intro A env h₀ L s₀ m s₁ Q E am S hQ
  dsimp only at m1 m2 m3
  unfold rgbOk at ok
  obtain ⟨ok, o6⟩ := and_t ok
  obtain ⟨ok, o5⟩ := and_t ok
  obtain ⟨ok, o4⟩ := and_t ok
  obtain ⟨ok, o3⟩ := and_t ok
  obtain ⟨o1, o2⟩ := and_t ok
  replace o1 := not_t o1
  replace o3 := not_t o3
  unfold eqF f0 at o1
  unfold f6 at o2 o3
  refine' enterL (binds := [(Str.ofString "h", .float h t1), (Str.ofString "s", .float s t2), (Str.ofString "v", .float v t3)]) am S ?ho ?hc ?hb ?hl ?c1 ?c2 ?c3 ?c4 _ ?_ hQ
  case ho => k_is
  case hc => k_is
  case hb => exact BindsTo.of_eq rfl
  case hl => exact locs rfl
  case c1 => exact rfl
  case c2 => exact rfl
  case c3 => exact rfl
  case c4 => decide
  intro g' L' s₁ env' A' m' am' S₁
  clear S hQ am
  try with_reducible refine wpGen fun Qg3 ig3 => ?_
  repeat' (walk_at "go")
  all_goals (first | exact False.elim (rgb_6 (by with_reducible assumption) (by with_reducible assumption) (by with_reducible assumption) (by with_reducible assumption) (by with_reducible assumption) (by with_reducible assumption)) | skip)
  all_goals (refine ⟨_, _, by with_reducible assumption, ⟨?_, ?_⟩, ?_⟩)
  all_goals first
    | (intro p hp; walk_at "mm"; done)
    | skip
  all_goals refine TV3t (by walk_at "mm") ?_ (by walk_at "mm") (by walk_at "mm") (by walk_at "mm") o4 o5 o6
  all_goals first | exact rgb_0 (by with_reducible assumption) | exact rgb_1 (by with_reducible assumption) (by with_reducible assumption) | exact rgb_2 (by with_reducible assumption) (by with_reducible assumption) (by with_reducible assumption) | exact rgb_3 (by with_reducible assumption) (by with_reducible assumption) (by with_reducible assumption) (by with_reducible assumption) | exact rgb_4 (by with_reducible assumption) (by with_reducible assumption) (by with_reducible assumption) (by with_reducible assumption) (by with_reducible assumption) | exact rgb_5 (by with_reducible assumption) (by with_reducible assumption) (by with_reducible assumption) (by with_reducible assumption) (by with_reducible assumption) (by with_reducible assumption)
end

-- D1
section

def ptI (n : Int) : List Int := [n % 64, 1 + n / 64 % 4, 1 + n / 256 % 4]
def inS (side n : Int) : Bool := decide (n / 4096 ∈ [side, 2])
def ptsOf (side : Int) (ns : List Int) : List (List Int) := (ns.filter (inS side)).map ptI

set_option maxHeartbeats 1000000 in
theorem sp_points {w : World} {d : Nat} {G : Ctx} {ln : Addr} {nvs : List Value} {k : Nat} {ns : List Int} {side : Int} {t : Nat} (hl : (ln, lstO nvs k) ∈ G.1) (hd : All2 (NV false G.2) nvs ns) (hsz : ns.length ≤ 100) :
    Sp w 185 [.ref ln, .int side t] (d + 1) G (fun G' v => Gr G G' ∧ ∃ l, v = .ref l ∧ (∀ p ∈ G.1, p.1 ≠ l) ∧ LV false G' l (ptsOf side ns)) := by
  intro A env h₀ L s₀ m s Q E am S hQ
  refine' enterCL (binds := [(Str.ofString "numbers", .ref ln), (Str.ofString "side", .int side t)]) am S ?ho ?hc ?hb ?hl ?c1 ?c2 ?c3 ?c4 _ ?_ hQ
  case ho => k_is
  case hc => k_is
  case hb => exact BindsTo.of_eq rfl
  case hl => exact rfl
  case c1 => decide
  case c2 => exact rfl
  case c3 => exact rfl
  case c4 => exact rfl
  intro g' L' cells s₁ env' A' m' am' hcl S₁ hlt
  clear S hQ am
  obtain ⟨oc, rfl, hoc⟩ := hcl.one
  simp only [List.cons_append, List.nil_append] at S₁
  refine wpAny_execs_cons ?_
  refine wpAny_Return_some ?_
  refine' compE ?hclos ?hcell ?hkind ?hnames ?_ ?hs
  case hclos => exact rfl
  case hcell => decide
  case hkind => exact rfl
  case hnames => decide
  case hs => intro _; exact rfl
  repeat' (walk_at "go")
  have hm1 : (L' + 1, oc) ∈ (((L' + 1, oc) :: G.1, G.2) : Ctx).1 := by walk_at "mm"
  have hm0 : (ln, lstO nvs k) ∈ (((L' + 1, oc) :: G.1, G.2) : Ctx).1 := by walk_at "mm"
  refine' ⟨_, _, _, _, _, _, _, _, fun i => inS side (ns.getD i 0), fun i G y => TV false G y (ptI (ns.getD i 0)), ⟨?S, Gr.rfl, Src.list am'.hh Gr.rfl hm0, ?_, ?_, ?_, ?_⟩⟩
  case S => with_reducible assumption
  · rw [hd.length]; omega
  · intro i X G₁ G' s₂ y S hX g h
    exact h.keepB S hX g
  · intro i v C G₁ s₂ oC mc hi hv S g hf hC hn
    have hi' : i < ns.length := by rw [← hd.length]; exact hi
    obtain ⟨_, e, x, rfl⟩ := hd.getq (List.getElem?_eq_getElem hi')
    rw [hv] at e; cases e
    have hns : ns.getD i 0 = ns[i] := by simp [hi']
    rw [hns]
    generalize ns[i] = n
    walk_at "go"
    walk_at "go"
    rename_i oC' G1 s4 S4 gB hC hN
    have hm2 := (g.off hf gB).a _ hm1
    clear g hm1 hm0 hf hv
    obtain ⟨Ld, Tk⟩ := G1
    repeat' (walk_at "go")
    refine ⟨rfl, ?_⟩
    refine PyProof.Rows.split_bool (fun hb => ?_) fun hb => ?_
    · repeat' (walk_at "go")
      exact ⟨_, _, _, by with_reducible assumption, gB.trans (.of (by walk_at "gg")), by walk_at "mm", by with_reducible assumption, ⟨_, _, rfl, by walk_at "mm", .cons NV.int (.cons NV.int (.cons NV.int .nil))⟩⟩
    · exact ⟨_, _, _, by with_reducible assumption, gB.trans (.of (by walk_at "gg")), by walk_at "mm", by with_reducible assumption⟩
  · intro D ys n G' s' S' g hD hf ha
    refine ⟨_, _, S', Gr.obj.trans g, D, rfl, fun p hp => hf p (.tail _ hp), ys, n, hD, ?_⟩
    rw [hd.length] at ha
    exact ha.pick
end

-- D2
section

set_option maxHeartbeats 1000000 in
theorem sp_lhsv {w : World} {d : Nat} {G : Ctx} {ln : Addr} {vs : List Value} {k : Nat} {ps : List P3} (hl : (ln, lstO vs k) ∈ G.1) (hd : All2 (TV true G) vs (ps.map colP)) (hp : ∀ p ∈ ps, Pk p) (hsz : ps.length ≤ 100) :
    Sp w 197 [.ref ln] (d + 2) G (fun G' v => Gr G G' ∧ ∃ l, v = .ref l ∧ (∀ p ∈ G.1, p.1 ≠ l) ∧ LV true G' l (ps.map hsvP)) := by
  intro A env h₀ L s₀ m s Q E am S hQ
  refine' enterL (binds := [(Str.ofString "colours", .ref ln)]) am S ?ho ?hc ?hb ?hl ?c1 ?c2 ?c3 ?c4 _ ?_ hQ
  case ho => k_is
  case hc => k_is
  case hb => exact BindsTo.of_eq rfl
  case hl => exact locs rfl
  case c1 => exact rfl
  case c2 => exact rfl
  case c3 => exact rfl
  case c4 => decide
  intro g' L' s₁ env' A' m' am' S₁
  clear S hQ am
  refine wpAny_execs_cons ?_
  refine wpAny_Return_some ?_
  refine' compE ?hclos ?hcell ?hkind ?hnames ?_ ?hs
  case hclos => exact rfl
  case hcell => decide
  case hkind => exact rfl
  case hnames => decide
  case hs => intro _; exact rfl
  repeat' (walk_at "go")
  have hlen : vs.length = ps.length := by rw [hd.length, List.length_map]
  refine' ⟨_, _, _, _, _, _, _, _, fun _ => true, fun i G y => TV true G y (hsvP (ps.getD i (0, 0, 0))), ⟨?S, Gr.rfl, Src.list am'.hh Gr.rfl hl, ?_, ?_, ?_, ?_⟩⟩
  case S => with_reducible assumption
  · rw [hlen]; omega
  · intro i X G₁ G' s₂ y S hX g h
    exact h.keepB S hX g
  · intro i v C G₁ s₂ oC mc hi hv S g hf hC hn
    have hi' : i < ps.length := by rw [← hlen]; exact hi
    have hpi : ps.getD i (0, 0, 0) = ps[i] := by simp [hi']
    obtain ⟨d', e, hv'⟩ := hd.at hv
    rw [List.getElem?_map, List.getElem?_eq_getElem hi'] at e
    cases e
    have hk := hp _ (List.getElem_mem hi')
    rw [hpi]
    generalize ps[i] = q at hv' hk
    obtain ⟨pt, pk, pj⟩ := q
    obtain ⟨a, t1, t2, t3, rfl, ha, m1, m2, m3⟩ := TV3inv hv'
    refine asg3 S (g.a _ ha) am'.hh hC hn (fun oC' G1 s4 S4 gB hC' hN' => ?_) rfl rfl rfl rfl
    have g1 := g.off hf gB
    replace m1 := g1.b _ m1
    replace m2 := g1.b _ m2
    replace m3 := g1.b _ m3
    clear hd hv hC hn hf S
    obtain ⟨Ld, Tk⟩ := G1
    repeat' (walk_at "go")
    refine ⟨rfl, ?_⟩
    rw [if_pos rfl]
    repeat' (walk_at "go")
    refine ⟨⟨_, _, _, by with_reducible assumption⟩, ?_⟩
    refine sp_hsv m1 m2 m3 (hsvOk_of hk.t hk.j hk.k) _ _ _ _ _ _ _ _ _ am' (by with_reducible assumption) (fun G2 v s' S' h => ?_)
    obtain ⟨g2, tv⟩ := h
    refine ⟨_, _, _, S', gB.trans (.of g2), g2.a _ hC', hN', ?_⟩
    rw [hue_of hk.t hk.j hk.k, sat_of hk.t hk.j hk.k, max_of hk.t hk.j hk.k] at tv
    exact tv
  · intro D ys n G' s' S' g hD hf ha
    refine ⟨_, _, S', g, D, rfl, hf, ys, n, hD, ?_⟩
    rw [hlen] at ha
    exact ha.pickAll
set_option maxHeartbeats 1000000 in
theorem sp_lhls {w : World} {d : Nat} {G : Ctx} {ln : Addr} {vs : List Value} {k : Nat} {ps : List P3} (hl : (ln, lstO vs k) ∈ G.1) (hd : All2 (TV true G) vs (ps.map colP)) (hp : ∀ p ∈ ps, Pk p) (hsz : ps.length ≤ 100) :
    Sp w 202 [.ref ln] (d + 2) G (fun G' v => Gr G G' ∧ ∃ l, v = .ref l ∧ (∀ p ∈ G.1, p.1 ≠ l) ∧ LV true G' l (ps.map hlsP)) := by
  intro A env h₀ L s₀ m s Q E am S hQ
  refine' enterL (binds := [(Str.ofString "colours", .ref ln)]) am S ?ho ?hc ?hb ?hl ?c1 ?c2 ?c3 ?c4 _ ?_ hQ
  case ho => k_is
  case hc => k_is
  case hb => exact BindsTo.of_eq rfl
  case hl => exact locs rfl
  case c1 => exact rfl
  case c2 => exact rfl
  case c3 => exact rfl
  case c4 => decide
  intro g' L' s₁ env' A' m' am' S₁
  clear S hQ am
  refine wpAny_execs_cons ?_
  refine wpAny_Return_some ?_
  refine' compE ?hclos ?hcell ?hkind ?hnames ?_ ?hs
  case hclos => exact rfl
  case hcell => decide
  case hkind => exact rfl
  case hnames => decide
  case hs => intro _; exact rfl
  repeat' (walk_at "go")
  have hlen : vs.length = ps.length := by rw [hd.length, List.length_map]
  refine' ⟨_, _, _, _, _, _, _, _, fun _ => true, fun i G y => TV true G y (hlsP (ps.getD i (0, 0, 0))), ⟨?S, Gr.rfl, Src.list am'.hh Gr.rfl hl, ?_, ?_, ?_, ?_⟩⟩
  case S => with_reducible assumption
  · rw [hlen]; omega
  · intro i X G₁ G' s₂ y S hX g h
    exact h.keepB S hX g
  · intro i v C G₁ s₂ oC mc hi hv S g hf hC hn
    have hi' : i < ps.length := by rw [← hlen]; exact hi
    have hpi : ps.getD i (0, 0, 0) = ps[i] := by simp [hi']
    obtain ⟨d', e, hv'⟩ := hd.at hv
    rw [List.getElem?_map, List.getElem?_eq_getElem hi'] at e
    cases e
    have hk := hp _ (List.getElem_mem hi')
    rw [hpi]
    generalize ps[i] = q at hv' hk
    obtain ⟨pt, pk, pj⟩ := q
    obtain ⟨a, t1, t2, t3, rfl, ha, m1, m2, m3⟩ := TV3inv hv'
    refine asg3 S (g.a _ ha) am'.hh hC hn (fun oC' G1 s4 S4 gB hC' hN' => ?_) rfl rfl rfl rfl
    have g1 := g.off hf gB
    replace m1 := g1.b _ m1
    replace m2 := g1.b _ m2
    replace m3 := g1.b _ m3
    clear hd hv hC hn hf S
    obtain ⟨Ld, Tk⟩ := G1
    repeat' (walk_at "go")
    refine ⟨rfl, ?_⟩
    rw [if_pos rfl]
    repeat' (walk_at "go")
    refine ⟨⟨_, _, _, by with_reducible assumption⟩, ?_⟩
    refine sp_hls m1 m2 m3 (hlsOk_of hk.t hk.j hk.k) _ _ _ _ _ _ _ _ _ am' (by with_reducible assumption) (fun G2 v s' S' h => ?_)
    obtain ⟨g2, tv⟩ := h
    refine ⟨_, _, _, S', gB.trans (.of g2), g2.a _ hC', hN', ?_⟩
    rw [hue_of hk.t hk.j hk.k, lum_of hk.t hk.j hk.k, satL_of hk.t hk.j hk.k] at tv
    exact tv
  · intro D ys n G' s' S' g hD hf ha
    refine ⟨_, _, S', g, D, rfl, hf, ys, n, hD, ?_⟩
    rw [hlen] at ha
    exact ha.pickAll
set_option maxHeartbeats 1000000 in
theorem sp_due {w : World} {d : Nat} {G : Ctx} {ln : Addr} {vs : List Value} {k : Nat} {ps : List P3} (hl : (ln, lstO vs k) ∈ G.1) (hd : All2 (TV false G) vs (ps.map ptP)) (hp : ∀ p ∈ ps, Pk p) (hsz : ps.length ≤ 100) :
    Sp w 207 [.ref ln] (d + 1) G (fun G' v => Gr G G' ∧ ∃ l, v = .ref l ∧ (∀ p ∈ G.1, p.1 ≠ l) ∧ LV true G' l (ps.map hsvP)) := by
  intro A env h₀ L s₀ m s Q E am S hQ
  refine' enterL (binds := [(Str.ofString "points", .ref ln)]) am S ?ho ?hc ?hb ?hl ?c1 ?c2 ?c3 ?c4 _ ?_ hQ
  case ho => k_is
  case hc => k_is
  case hb => exact BindsTo.of_eq rfl
  case hl => exact locs rfl
  case c1 => exact rfl
  case c2 => exact rfl
  case c3 => exact rfl
  case c4 => decide
  intro g' L' s₁ env' A' m' am' S₁
  clear S hQ am
  refine wpAny_execs_cons ?_
  refine wpAny_Return_some ?_
  refine' compE ?hclos ?hcell ?hkind ?hnames ?_ ?hs
  case hclos => exact rfl
  case hcell => decide
  case hkind => exact rfl
  case hnames => decide
  case hs => intro _; exact rfl
  repeat' (walk_at "go")
  have hlen : vs.length = ps.length := by rw [hd.length, List.length_map]
  refine' ⟨_, _, _, _, _, _, _, _, fun _ => true, fun i G y => TV true G y (hsvP (ps.getD i (0, 0, 0))), ⟨?S, Gr.rfl, Src.list am'.hh Gr.rfl hl, ?_, ?_, ?_, ?_⟩⟩
  case S => with_reducible assumption
  · rw [hlen]; omega
  · intro i X G₁ G' s₂ y S hX g h
    exact h.keepB S hX g
  · intro i v C G₁ s₂ oC mc hi hv S g hf hC hn
    have hi' : i < ps.length := by rw [← hlen]; exact hi
    have hpi : ps.getD i (0, 0, 0) = ps[i] := by simp [hi']
    obtain ⟨d', e, hv'⟩ := hd.at hv
    rw [List.getElem?_map, List.getElem?_eq_getElem hi'] at e
    cases e
    have hk := hp _ (List.getElem_mem hi')
    rw [hpi]
    generalize ps[i] = q at hv' hk
    obtain ⟨pt, pk, pj⟩ := q
    obtain ⟨a, t1, t2, t3, rfl, ha⟩ := TV3invI hv'
    refine asg3 S (g.a _ ha) am'.hh hC hn (fun oC' G1 s4 S4 gB hC' hN' => ?_) rfl rfl rfl rfl
    have g1 := g.off hf gB
    clear hd hv hC hn hf S
    have e1 : good (Float64.ofFrac false pt 64) = true := by rw [f_hue64 hk.t]; exact dd_good (by have := hk.t; simp only at this; omega)
    have e2 : good (Float64.ofFrac false pk 4) = true := by rw [f_four hk.k.2]; exact dd_good (by have := hk.k.2; dsimp only at this ⊢; omega)
    have e3 : good (Float64.ofFrac false pj 4) = true := by rw [f_four hk.j.2]; exact dd_good (by have := hk.j.2; dsimp only at this ⊢; omega)
    have i1 := good_inf e1
    have i2 := good_inf e2
    have i3 := good_inf e3
    obtain ⟨Ld, Tk⟩ := G1
    repeat' (walk_at "go")
    refine ⟨rfl, ?_⟩
    rw [if_pos rfl]
    repeat' (walk_at "go")
    exact ⟨_, _, _, by with_reducible assumption, gB.trans (.of (by walk_at "gg")), by walk_at "mm", hN', TV3 (by walk_at "mm") (by exact rfl) (by exact rfl) (by exact rfl) (by walk_at "mm") (by walk_at "mm") (by walk_at "mm") e1 e2 e3⟩
  · intro D ys n G' s' S' g hD hf ha
    refine ⟨_, _, S', g, D, rfl, hf, ys, n, hD, ?_⟩
    rw [hlen] at ha
    exact ha.pickAll
end

-- D3
section

set_option maxHeartbeats 1000000 in
theorem sp_hdue {w : World} {d : Nat} {G : Ctx} {v : Value} {q : P3} (hv : TV false G v (ptP q)) (hp : Pk q) :
    Sp w 214 [v] (d + 1) G (fun G' v => Gr G G' ∧ TV true G' v (hlsP q)) := by
  obtain ⟨pt, pk, pj⟩ := q
  obtain ⟨a, t1, t2, t3, rfl, ha⟩ := TV3invI hv
  clear hv
  obtain ⟨Ld, Tk⟩ := G
  intro A env h₀ L s₀ m s Q E am S hQ
  refine' enterL (binds := [(Str.ofString "point", .ref a)]) am S ?ho ?hc ?hb ?hl ?c1 ?c2 ?c3 ?c4 _ ?_ hQ
  case ho => k_is
  case hc => k_is
  case hb => exact BindsTo.of_eq rfl
  case hl => exact locs rfl
  case c1 => exact rfl
  case c2 => exact rfl
  case c3 => exact rfl
  case c4 => decide
  intro g' L' s₁ env' A' m' am' S₁
  clear S hQ am
  have ht := hp.t
  have hk1 := hp.k.1
  have hk2 := hp.k.2
  have hj1 := hp.j.1
  have hj2 := hp.j.2
  dsimp only at ht hk1 hk2 hj1 hj2
  have e1 : good (Float64.ofFrac false pt 64) = true := by rw [f_hue64 ht]; exact dd_good (by omega)
  have e4 := all2_at low_good_ hp.j hp.k
  simp only [Bool.and_eq_true] at e4
  obtain ⟨e2, e3⟩ := e4
  have b0 : (pj : Int) * (8 - (pk : Int)) = ((pj * (8 - pk) : Nat) : Int) := by rw [Int.natCast_mul, Int.natCast_sub (by omega)]; rfl
  have b3 : (pk : Int) * (pj : Int) = ((pk * pj : Nat) : Int) := by rw [Int.natCast_mul]
  have b1 : 1 ≤ pj * (8 - pk) := Nat.mul_pos (by omega) (by omega)
  have b2 : pj * (8 - pk) ≤ 4 * 7 := Nat.mul_le_mul (by omega) (by omega)
  generalize hB : pj * (8 - pk) = B at b0 b1 b2 e2 e3
  generalize hS : pk * pj = W at b3 e3
  have i1 := good_inf e1
  have n2 : ((pj : Int) * (8 - (pk : Int))).toNat = B := by rw [b0]; rfl
  have n3 : ((pk : Int) * (pj : Int)).toNat = W := by rw [b3]; rfl
  have i2 : Float64.isInf (Float64.ofFrac false ((pj : Int) * (8 - (pk : Int))).toNat (Int.toNat 32)) = false := by rw [n2]; exact good_inf e2
  by_cases hle : B ≤ 16
  · rw [if_pos hle] at e3
    have hc : decide ((pj : Int) * (8 - (pk : Int)) ≤ 16) = true := decide_eq_true (by omega)
    have i3 : Float64.isInf (Float64.ofFrac false ((pk : Int) * (pj : Int)).toNat ((pj : Int) * (8 - (pk : Int))).toNat) = false := by rw [n2, n3]; exact good_inf e3
    repeat' (walk_at "go")
    refine ⟨_, _, by with_reducible assumption, by walk_at "gg", ?_⟩
    refine TV3 (by walk_at "mm") (by exact rfl) ?_ ?_ (by walk_at "mm") (by walk_at "mm") (by walk_at "mm") e1 ?_ ?_
    · show Float64.ofFrac false (pj * (8 - pk)) 32 = _
      rw [n2, hB]; rfl
    · show Float64.ofFrac false (pk * pj) (if pj * (8 - pk) ≤ 16 then pj * (8 - pk) else 32 - pj * (8 - pk)) = _
      rw [n2, n3, hB, hS, if_pos hle]
    · show good (Float64.ofFrac false (pj * (8 - pk)) 32) = true
      rw [hB]; exact e2
    · show good (Float64.ofFrac false (pk * pj) (if pj * (8 - pk) ≤ 16 then pj * (8 - pk) else 32 - pj * (8 - pk))) = true
      rw [hB, hS, if_pos hle]; exact e3
  · rw [if_neg hle] at e3
    have hc : decide ((pj : Int) * (8 - (pk : Int)) ≤ 16) = false := decide_eq_false (by omega)
    have n4 : (32 - (pj : Int) * (8 - (pk : Int))).toNat = 32 - B := by rw [b0]; omega
    have i3 : Float64.isInf (Float64.ofFrac false ((pk : Int) * (pj : Int)).toNat (32 - (pj : Int) * (8 - (pk : Int))).toNat) = false := by rw [n4, n3]; exact good_inf e3
    repeat' (walk_at "go")
    refine ⟨_, _, by with_reducible assumption, by walk_at "gg", ?_⟩
    refine TV3 (by walk_at "mm") (by exact rfl) ?_ ?_ (by walk_at "mm") (by walk_at "mm") (by walk_at "mm") e1 ?_ ?_
    · show Float64.ofFrac false (pj * (8 - pk)) 32 = _
      rw [n2, hB]; rfl
    · show Float64.ofFrac false (pk * pj) (if pj * (8 - pk) ≤ 16 then pj * (8 - pk) else 32 - pj * (8 - pk)) = _
      rw [n4, n3, hB, hS, if_neg hle]
    · show good (Float64.ofFrac false (pj * (8 - pk)) 32) = true
      rw [hB]; exact e2
    · show good (Float64.ofFrac false (pk * pj) (if pj * (8 - pk) ≤ 16 then pj * (8 - pk) else 32 - pj * (8 - pk))) = true
      rw [hB, hS, if_neg hle]; exact e3
end

-- D4
section

set_option maxHeartbeats 1000000 in
theorem sp_beyond {w : World} {d : Nat} {G : Ctx} {l1 l2 : Addr} {vs us : List Value} {n k : Nat} {ps qs : List (List Int)} {v : Value} {e : List Int}
    (hl1 : (l1, lstO vs n) ∈ G.1) (hd1 : All2 (TV false G) vs ps) (hl2 : (l2, lstO us k) ∈ G.1) (hd2 : All2 (TV false G) us qs) (hv : TV false G v e) :
    Sp w 221 [.ref l1, .ref l2, v] (d + 1) G (fun G' v => Gr G G' ∧ ∃ t, v = .int ((ps.count e : Nat) - (qs.count e : Nat)) t) := by
  intro A env h₀ L s₀ m s Q E am S hQ
  refine' enterL (binds := [(Str.ofString "points", .ref l1), (Str.ofString "others", .ref l2), (Str.ofString "point", v)]) am S ?ho ?hc ?hb ?hl ?c1 ?c2 ?c3 ?c4 _ ?_ hQ
  case ho => k_is
  case hc => k_is
  case hb => exact BindsTo.of_eq rfl
  case hl => exact locs rfl
  case c1 => exact rfl
  case c2 => exact rfl
  case c3 => exact rfl
  case c4 => decide
  intro g' L' s₁ env' A' m' am' S₁
  clear S hQ am
  repeat' (walk_at "go")
  exact ⟨_, _, by with_reducible assumption, Gr.rfl, _, rfl⟩
end

-- D5
section


def q3 (n : Int) : P3 := ((n % 64).toNat, (1 + n / 64 % 4).toNat, (1 + n / 256 % 4).toNat)
theorem q3_pk (n : Int) : Pk (q3 n) := ⟨by show (n % 64).toNat < 64; lia, by show 1 ≤ (1 + n / 64 % 4).toNat ∧ (1 + n / 64 % 4).toNat ≤ 4; lia, by show 1 ≤ (1 + n / 256 % 4).toNat ∧ (1 + n / 256 % 4).toNat ≤ 4; lia⟩
theorem q3_pt (n : Int) : ptP (q3 n) = ptI n := by
  show [(((n % 64).toNat : Nat) : Int), (((1 + n / 64 % 4).toNat : Nat) : Int), (((1 + n / 256 % 4).toNat : Nat) : Int)] = [n % 64, 1 + n / 64 % 4, 1 + n / 256 % 4]
  rw [Int.toNat_of_nonneg (by lia), Int.toNat_of_nonneg (by lia), Int.toNat_of_nonneg (by lia)]
def turnI (side n : Int) : Int := n % 64 + 64 * (n / 1024 % 4) + 32 * side
def pksOf (side : Int) (ns : List Int) : List P3 := (ns.filter (inS side)).map q3

theorem turn_good_ : ((List.range 288).all fun T => good (Float64.ofFrac false T 64)) = true := by decide +kernel
theorem turn_good {T : Nat} (h : T < 288) : good (Float64.ofFrac false T 64) = true := all_lt turn_good_ h
theorem four_good {k : Nat} (h : k ≤ 4) : good (Float64.ofFrac false k 4) = true := by rw [f_four h]; exact dd_good (by lia)
theorem pks_take {side : Int} {ns : List Int} {i : Nat} (h : i < ns.length) : pksOf side (ns.take (i + 1)) = pksOf side (ns.take i) ++ (if inS side ns[i] then [q3 ns[i]] else []) := by
  unfold pksOf
  rw [List.take_add_one, List.getElem?_eq_getElem h, List.filter_append, List.map_append]
  cases hp : inS side ns[i] <;> simp [hp]
theorem mir3 {t k j u : Nat} (ht : t < 64) (hj : 1 ≤ j ∧ j ≤ 4) (hk : 1 ≤ k ∧ k ≤ 4) (hu : (t + 32) % 64 = u) :
    colR u k j = Float64.sub (Float64.add (max3F (colR t k j) (colG t k j) (colB t k j)) (min3F (colR t k j) (colG t k j) (colB t k j))) (colR t k j) ∧
    colG u k j = Float64.sub (Float64.add (max3F (colR t k j) (colG t k j) (colB t k j)) (min3F (colR t k j) (colG t k j) (colB t k j))) (colG t k j) ∧
    colB u k j = Float64.sub (Float64.add (max3F (colR t k j) (colG t k j) (colB t k j)) (min3F (colR t k j) (colG t k j) (colB t k j))) (colB t k j) := by
  subst hu
  rw [both_of ht hj hk]
  exact ⟨(mirror_of ht hj hk).1.symm, (mirror_of ht hj hk).2.1.symm, (mirror_of ht hj hk).2.2.symm⟩
theorem side_col {side n : Int} (hside : side = 0 ∨ side = 1) : (turnI side n).toNat < 288 ∧ (side = 0 → (turnI side n).toNat % 64 = (q3 n).1) ∧ (side = 1 → ((turnI side n).toNat % 64 + 32) % 64 = (q3 n).1) := by
  have e : (q3 n).1 = (n % 64).toNat := rfl
  rw [e]
  unfold turnI
  lia

set_option maxHeartbeats 2000000 in
theorem sp_colours {w : World} {d : Nat} {G : Ctx} {ln : Addr} {nvs : List Value} {k : Nat} {ns : List Int} {side : Int} {t : Nat} (hl : (ln, lstO nvs k) ∈ G.1) (hd : All2 (NV false G.2) nvs ns) (hsz : ns.length ≤ 100) (hside : side = 0 ∨ side = 1) :
    Sp w 192 [.ref ln, .int side t] (d + 2) G (fun G' v => Gr G G' ∧ ∃ l, v = .ref l ∧ (∀ p ∈ G.1, p.1 ≠ l) ∧ LV true G' l ((pksOf side ns).map colP)) := by
  obtain ⟨Ld, Tk⟩ := G
  intro A env h₀ L s₀ m sB Q E am S hQ
  refine' enterL (binds := [(Str.ofString "numbers", .ref ln), (Str.ofString "side", .int side t)]) am S ?ho ?hc ?hb ?hl ?c1 ?c2 ?c3 ?c4 _ ?_ hQ
  case ho => k_is
  case hc => k_is
  case hb => exact BindsTo.of_eq rfl
  case hl => exact locs rfl
  case c1 => exact rfl
  case c2 => exact rfl
  case c3 => exact rfl
  case c4 => decide
  intro g' L' s₁ env' A' m' am' S₁
  clear S hQ am
  try with_reducible refine wpGen fun Qg1 ig1 => ?_
  repeat' (walk_at "go")
  rename_i D s2 S2 hfD s3 S3
  refine ForS ?_ (by intro _; exact rfl)
  try with_reducible refine wpGen fun Qg2 ig2 => ?_
  repeat' (walk_at "go")
  refine it_list S3 (l := ln) (vs := nvs) (n := k) (by walk_at "mm") (fun I G2 s5 S5 g2 hI hfI => ?_)
  have hID : I ≠ D := fun e => hfI _ (.head _) e.symm
  have hfr : ∀ p ∈ ((Ld, Tk) : Ctx).1, p.1 ≠ I := fun p hp => hfI p (.tail _ hp)
  refine ⟨nvs.length, fun i s => ∃ m G₁ ys c, St g' L' sB m G₁ s ∧ m (Str.ofString "colours") = some (.ref D) ∧ m (Str.ofString "side") = some (.int side t) ∧ Gr (Ld, Tk) G₁ ∧ LI G₁ I ln i ∧ (D, lstO ys c) ∈ G₁.1 ∧
    All2 (TV true G₁) ys ((pksOf side (ns.take i)).map colP), ⟨_, G2, [], 0, S5, rfl, rfl, ⟨fun p hp => g2.a _ (.tail _ hp), g2.b⟩, hI, g2.a _ (.head _), .nil⟩, ?_, ?_⟩
  · rintro i s6 hi ⟨m1, G1, ys, c, S6, hm1, hm2, g1, hI1, hD1, ha⟩
    have hi' : i < ns.length := by rw [← hd.length]; exact hi
    obtain ⟨_, ev, x, rfl⟩ := hd.getq (List.getElem?_eq_getElem hi')
    refine nx_list S6 hI1 (g1.a _ hl) ev (fun G3 s7 S7 gB hI3 => ?_)
    refine lg_list S7 hI3 ?_
    refine wpAny_assign_Name (stL S7 (fun s8 S8 => ?_) rfl rfl)
    have g3 := g1.off hfr gB
    have hD3 := gB.a _ hD1 (fun h => hID (List.mem_singleton.mp h).symm)
    have hys : ys.length ≤ 1000 := by
      have := ha.length
      have h2 : (pksOf side (ns.take i)).length ≤ (ns.take i).length := by unfold pksOf; rw [List.length_map]; exact List.length_filter_le _ _
      have h3 := List.length_take_le i ns
      rw [List.length_map] at this
      lia
    replace ha := ha.mono fun v p h => TV.keepB S6 (.cons hI1.choose_spec.1 (fun xs e => by have := hI1.choose_spec.2.2; rw [e] at this; cases this) .nil) gB h
    have hpk := pks_take (side := side) hi'
    obtain ⟨hT, hT0, hT1⟩ := side_col (n := ns[i]) hside
    have hk := q3_pk ns[i]
    have i1 : Float64.isInf (Float64.ofFrac false (ns[i] % 64 + 64 * (ns[i] / 1024 % 4) + 32 * side).toNat (Int.toNat 64)) = false := good_inf (turn_good hT)
    have i2 : Float64.isInf (Float64.ofFrac false (1 + ns[i] / 64 % 4).toNat (Int.toNat 4)) = false := good_inf (four_good hk.k.2)
    have i3 : Float64.isInf (Float64.ofFrac false (1 + ns[i] / 256 % 4).toNat (Int.toNat 4)) = false := good_inf (four_good hk.j.2)
    have ok : rgbOk (Float64.ofFrac false (ns[i] % 64 + 64 * (ns[i] / 1024 % 4) + 32 * side).toNat (Int.toNat 64)) (Float64.ofFrac false (1 + ns[i] / 64 % 4).toNat (Int.toNat 4)) (Float64.ofFrac false (1 + ns[i] / 256 % 4).toNat (Int.toNat 4)) = true := rgbOk_of hT hk.j hk.k
    have rg : rgbF (Float64.ofFrac false (ns[i] % 64 + 64 * (ns[i] / 1024 % 4) + 32 * side).toNat (Int.toNat 64)) (Float64.ofFrac false (1 + ns[i] / 64 % 4).toNat (Int.toNat 4)) (Float64.ofFrac false (1 + ns[i] / 256 % 4).toNat (Int.toNat 4)) = _ := rgb_of hT hk.j hk.k
    clear S6 gB g1 hI1 hD1 S7 S5 S3 S2 S₁ ev
    obtain ⟨Ld3, Tk3⟩ := G3
    try with_reducible refine wpGen fun Qg3 ig3 => ?_
    repeat' (walk_at "go")
    · refine ⟨⟨_, _, _, by with_reducible assumption⟩, ?_⟩
      refine' sp_rgb ?m1 ?m2 ?m3 ok _ _ _ _ _ _ _ _ _ am' ?S ?_
      case S => with_reducible assumption
      case m1 => walk_at "mm"
      case m2 => walk_at "mm"
      case m3 => walk_at "mm"
      intro G4 v s9 S9 h
      obtain ⟨g4, tv⟩ := h
      rw [rg] at tv
      obtain ⟨a, u1, u2, u3, rfl, hta, m1, m2, m3⟩ := TV3inv tv
      obtain ⟨Ld4, Tk4⟩ := G4
      clear tv
      have hD5 := g4.a _ (.tail _ hD3)
      dsimp only at m1 m2 m3 hD5 hta
      try with_reducible refine wpGen fun Qg4 ig4 => ?_
      repeat' (walk_at "go")
      all_goals
        rename_i aT sT ST hnT Gf sf Sf gf hDf
        have hin : inS side ns[i] = true := by unfold inS; assumption
        have gA := (Gr.trans (by walk_at "gg") g4 : Gr (Ld3, Tk3) (Ld4, Tk4))
        have gT := (GrB.trans (GrB.of (by walk_at "gg")) gf : GrB [D] (Ld4, Tk4) Gf)
        have hu : (turnI side ns[i]).toNat % 64 < 64 := Nat.mod_lt _ (by decide)
        have hcg := col_good (t := (q3 ns[i]).1) (k := (q3 ns[i]).2.1) hk.j.2
        refine ⟨.inl rfl, _, Gf, ys ++ [.ref aT], c + 1, Sf, by exact hm1, by exact hm2, ((g3.trans gA).off hfD gT), (hI3.keep (GrB.of (l := []) gA) (by simp)).keep gT (by simpa using hID), hDf, ?_⟩
        rw [hpk, if_pos hin, List.map_append]
        refine All2.append (ha.mono fun v p h => TV.keepB S9 (.cons hD5 lst_nt .nil) gT (h.mono gA)) (.cons (TV.keepB ST (.cons (.tail _ hD5) lst_nt .nil) gf (TV3 (by walk_at "mm") ?_ ?_ ?_ (by walk_at "mm") (by walk_at "mm") (by walk_at "mm") hcg.1 hcg.2.1 hcg.2.2)) .nil)
      iterate 3
        · have hq : (side != 0) = true := by with_reducible assumption
          have h1 : side = 1 := by
            rcases hside with h | h
            · rw [h] at hq; exact absurd hq (by decide)
            · exact h
          first
            | exact (mir3 hu hk.j hk.k (hT1 h1)).1
            | exact (mir3 hu hk.j hk.k (hT1 h1)).2.1
            | exact (mir3 hu hk.j hk.k (hT1 h1)).2.2
      all_goals
        have hq : (side != 0) = false := by with_reducible assumption
        have h1 : side = 0 := by
          rcases hside with h | h
          · exact h
          · rw [h] at hq; exact absurd hq (by decide)
        rw [← hT0 h1]
        rfl
    · rename_i hb
      have hin : inS side ns[i] = false := by unfold inS; assumption
      refine' ⟨.inl rfl, _, _, ys, c, ?S, ?_⟩
      case S => with_reducible assumption
      refine ⟨by exact hm1, by exact hm2, g3.trans (by walk_at "gg"), hI3.keep (GrB.of (l := []) (by walk_at "gg")) (by simp), by walk_at "mm", ?_⟩
      rw [hpk, if_neg (by rw [hin]; decide), List.append_nil]
      exact ha.mono fun v p h => h.mono (by walk_at "gg")
  · rintro s6 ⟨m1, G1, ys, c, S6, hm1, hm2, g1, hI1, hD1, ha⟩
    refine nx_list_end am'.hh S6 hI1 (g1.a _ hl) (List.getElem?_eq_none (Nat.le_refl _)) (fun G3 s7 S7 gB => ⟨rfl, ?_⟩)
    clear S3 S5 S₁
    try with_reducible refine wpGen fun Qg5 ig5 => ?_
    repeat' (walk_at "go")
    refine ⟨_, G3, by with_reducible assumption, g1.off hfr gB, D, rfl, hfD, ys, c, gB.a _ hD1 (fun h => hID (List.mem_singleton.mp h).symm), ?_⟩
    rw [hd.length, List.take_length] at ha
    exact ha.mono fun v p h => TV.keepB S6 (.cons hI1.choose_spec.1 (fun xs e => by have := hI1.choose_spec.2.2; rw [e] at this; cases this) .nil) gB h
end

-- D6
section



set_option maxHeartbeats 200000 in
theorem sp_unord {w : World} {d : Nat} {G : Ctx} {l1 l2 : Addr} {vs1 vs2 : List Value} {n1 n2 : Nat} {ds1 ds2 : List (List Int)} (hl1 : (l1, lstO vs1 n1) ∈ G.1) (hd1 : All2 (TV true G) vs1 ds1) (hl2 : (l2, lstO vs2 n2) ∈ G.1) (hd2 : All2 (TV true G) vs2 ds2)
    (h12 : l1 ≠ l2) (hz1 : ds1.length ≤ 100) (hz2 : ds2.length ≤ 100) :
    SpX w 99 [.ref l1, .ref l2] (d + 1) G (fun G' v => GrB [l1, l2] G G' ∧ ∃ a M c, v = .ref a ∧ (a, tupO [.ref M, .ref l2]) ∈ G'.1 ∧ (l1, lstO [] c) ∈ G'.1 ∧ (∀ p ∈ G.1, p.1 ≠ M) ∧
      LV true G' M (unordD ds1.reverse ds2).1 ∧ LV true G' l2 (unordD ds1.reverse ds2).2) := by
  intro A env h₀ L s₀ m sB Q E am S hQ
  refine' enterXL (binds := [(Str.ofString "expected", .ref l1), (Str.ofString "actual", .ref l2)]) am S ?ho ?hc ?hb ?hl ?c1 ?c2 ?c3 ?c4 _ ?_ hQ
  case ho => k_is
  case hc => k_is
  case hb => exact BindsTo.of_eq rfl
  case hl => exact rfl
  case c1 => decide
  case c2 => exact rfl
  case c3 => exact rfl
  case c4 => exact rfl
  intro g' L' cells s₁ env' A' m' am' hcl S₁ hlt
  clear S hQ am
  cases hcl
  simp only [List.nil_append] at S₁
  obtain ⟨Ld, Tk⟩ := G
  try with_reducible refine wpGen fun Qg1 ig1 => ?_
  repeat' (walk_at "go")
  rename_i M s2 S2 hfM s3 S3
  dsimp only at hl1 hl2 hd1 hd2 hfM
  have hM1 : M ≠ l1 := fun e => hfM _ hl1 e.symm
  have hM2 : M ≠ l2 := fun e => hfM _ hl2 e.symm
  have hL1 := hd1.length
  have hL2 := hd2.length
  refine WhileS (fun r s => ∃ g1 m G1 act us ms ys c1 c2 c3, r ≤ ds1.length ∧ am'.To g1 ∧ St g1 L' sB m G1 s ∧
    m (Str.ofString "expected") = some (.ref l1) ∧ m (Str.ofString "actual") = some (.ref l2) ∧ m (Str.ofString "missing") = some (.ref M) ∧ GrB [l1, l2] (Ld, Tk) G1 ∧ (l1, lstO (vs1.take r) c1) ∈ G1.1 ∧ (l2, lstO us c2) ∈ G1.1 ∧ All2 (TV true G1) us act ∧
    (M, lstO ys c3) ∈ G1.1 ∧ All2 (TV true G1) ys ms ∧ unordD ds1.reverse ds2 = (ms ++ (unordD (ds1.take r).reverse act).1, (unordD (ds1.take r).reverse act).2) ∧ act.length ≤ ds2.length ∧ ms.length ≤ ds1.length - r) ds1.length ?_ ?_
  · exact ⟨g', _, _, ds2, vs2, [], [], n1, n2, 0, Nat.le_refl _, am'.to0, S3, rfl, rfl, rfl, .of (by walk_at "gg"), by rw [← hL1, List.take_length]; walk_at "mm", by walk_at "mm", hd2.mono fun v p h => h.mono (by walk_at "gg"), by walk_at "mm", .nil, by rw [List.take_length]; rfl, Nat.le_refl _, by simp⟩
  · rintro r s6 ⟨g1, m1, G1, act, us, ms, ys, c1, c2, c3, hr, hT, S6, e1, e2, e3, gB, hb1, hb2, hact, hbM, hms, hun, hza, hzm⟩
    have am1 := am'.to_at hT
    have ntI : NT ((Ld, Tk) : Ctx) [l1, l2] := .cons hl1 lst_nt (.cons hl2 lst_nt .nil)
    have tv : ∀ (k : Nat) (h : k < ds1.length), TV true G1 (vs1[k]'(by rw [hL1]; exact h)) ds1[k] := fun k h => TV.keepB S₁ ntI gB (hd1.get k (by rw [hL1]; exact h) h)
    clear S3 S2
    walk_at "go"
    walk_at "go"
    refine tLst S6 hb1 (by rw [List.length_take]; lia) fun s7 S7 => ?_
    cases r with
    | zero =>
      rw [if_neg (by simp)]
      rw [List.take_zero] at hb1
      obtain ⟨Ld1, Tk1⟩ := G1
      try with_reducible refine wpGen fun Qg2 ig2 => ?_
      repeat' (walk_at "go")
      refine ⟨g1, _, _, hT, by with_reducible assumption, gB.trans (.of (by walk_at "gg")), _, M, c1, rfl, by walk_at "mm", by walk_at "mm", hfM, ?_, ?_⟩
      · rw [hun]
        show LV true _ M (ms ++ [])
        rw [List.append_nil]
        exact ⟨ys, c3, by walk_at "mm", hms.mono fun v p h => h.mono (by walk_at "gg")⟩
      · rw [hun]
        exact ⟨us, c2, by walk_at "mm", hact.mono fun v p h => h.mono (by walk_at "gg")⟩
    | succ r =>
      have hr1 : r < ds1.length := hr
      have hr2 : r < vs1.length := by rw [hL1]; exact hr1
      have ht : vs1.take (r + 1) = vs1.take r ++ [vs1[r]] := by rw [List.take_add_one, List.getElem?_eq_getElem hr2]; rfl
      have htd : (ds1.take (r + 1)).reverse = ds1[r] :: (ds1.take r).reverse := by rw [List.take_add_one, List.getElem?_eq_getElem hr1]; simp
      have hne : (!(vs1.take (r + 1)).isEmpty) = true := by rw [ht]; cases vs1.take r <;> rfl
      rw [if_pos hne]
      rw [ht] at hb1
      rw [htd] at hun
      try with_reducible refine wpGen fun Qg3 ig3 => ?_
      repeat' (walk_at "go")
      refine popL S7 hb1 (by rw [List.length_take]; lia) fun G2 s8 c1' S8 gB2 hp1 => ?_
      have nt1 : NT G1 [l1] := .cons hb1 lst_nt .nil
      have hb2' := gB2.a _ hb2 (by simpa using Ne.symm h12)
      have hbM' := gB2.a _ hbM (by simpa using hM1)
      have tx := TV.keepB S7 nt1 gB2 (tv r hr1)
      replace hact := hact.mono fun v p h => TV.keepB S7 nt1 gB2 h
      replace hms := hms.mono fun v p h => TV.keepB S7 nt1 gB2 h
      replace gB := gB.trans (gB2.sub (l' := [l1, l2]) (by simp))
      clear S6 S7 gB2 hb1 hb2 hbM tv nt1
      obtain ⟨Ld2, Tk2⟩ := G2
      dsimp only at hb2' hbM' hp1
      try with_reducible refine wpGen fun Qg4 ig4 => ?_
      repeat' (walk_at "go")
      rename_i s9 S9
      by_cases hx : ds1[r] ∈ act
      · refine rm_yes S9 (am1.nbAt S9) am1.units1 hb2' hact tx hx (by lia) fun G3 s10 us' c2' S10 gB3 hb3 hus => ?_
        try with_reducible refine wpGen fun Qg5 ig5 => ?_
        repeat' (walk_at "go")
        have nt2 : NT ((Ld2, Tk2) : Ctx) [l2] := .cons hb2' lst_nt .nil
        have hu2 : unordD (ds1[r] :: (ds1.take r).reverse) act = unordD (ds1.take r).reverse (act.erase ds1[r]) := by simp only [unordD]; rw [if_pos (by simpa using hx)]
        rw [hu2] at hun
        have hle := List.length_erase_le (a := ds1[r]) (l := act)
        refine ⟨.inl rfl, r, Nat.lt_succ_self r, g1, _, G3, act.erase ds1[r], us', ms, ys, c1', c2', c3, by lia, hT, S10, by exact e1, by exact e2, by exact e3, gB.trans (gB3.sub (by simp)), gB3.a _ hp1 (by simpa using h12), hb3, hus.mono fun v p h => TV.keepB S9 nt2 gB3 h, gB3.a _ hbM' (by simpa using hM2),
          hms.mono fun v p h => TV.keepB S9 nt2 gB3 h, hun, by lia, by lia⟩
      · refine rm_no S9 (am1.nbAt S9) am1.units1 am1.hh hb2' hact tx hx fun h' tk e hfr htk => ?_
        refine note_new am1 S9 hfr htk fun g2 tb G3 s10 tn2 am2 S10 gr3 hne3 hex => ?_
        refine set_fl S10 hex none fun G4 s11 S11 gB4 hex4 => ?_
        refine handle_ am2 S11 hex4 (k_ValueError _) PyProof.Rows.Boot.«ValueError» PySem.F.isExc_ValueError PySem.F.notTuple_ValueError (by rw [isSubtype_type]; kernel_rfl) (fun G5 s12 S12 gB5 => ?_) (by decide) rfl rfl (by decide)
        have gr : Gr ((Ld2, Tk2) : Ctx) G5 := ⟨fun p hp => gB5.a _ (gB4.a _ (gr3.a p hp) (by simpa using (hne3 p hp).2)) (by simpa using (hne3 p hp).2), fun p hp => gB5.b _ (gB4.b _ (gr3.b p hp))⟩
        have hM5 := gr.a _ hbM'
        clear S10 S11 gB4 gB5 gr3
        obtain ⟨Ld5, Tk5⟩ := G5
        have hys : ys.length ≤ 1000 := by have := hms.length; lia
        have SX := S12
        try with_reducible refine wpGen fun Qg6 ig6 => ?_
        repeat' (walk_at "go")
        rename_i G6 s13 S13 gB6 hD6
        have nt5 : NT ((Ld5, Tk5) : Ctx) [M] := .cons hM5 lst_nt .nil
        have hu2 : unordD (ds1[r] :: (ds1.take r).reverse) act = (ds1[r] :: (unordD (ds1.take r).reverse act).1, (unordD (ds1.take r).reverse act).2) := by simp only [unordD]; rw [if_neg (by simpa using hx)]
        rw [hu2] at hun
        have gF : GrB [M] ((Ld2, Tk2) : Ctx) G6 := (GrB.of gr).trans gB6
        have hnM : ∀ q ∈ ((Ld, Tk) : Ctx).1, q.1 ∉ [l1, l2] → q ∈ G6.1 := fun q hq hn => gF.a _ (gB.a q hq hn) (by simpa using hfM q hq)
        refine ⟨.inl rfl, r, Nat.lt_succ_self r, g2, _, G6, act, us, ms ++ [ds1[r]], ys ++ [vs1[r]], c1', c2, c3 + 1, by lia, Amb.to_on hT tn2, S13, by exact e1, by exact e2, by exact e3, ⟨hnM, fun q hq => gF.b _ (gB.b q hq)⟩, gF.a _ hp1 (by simpa using Ne.symm hM1), gF.a _ hb2' (by simpa using Ne.symm hM2),
          hact.mono fun v p h => TV.keepB SX nt5 gB6 (h.mono gr), hD6, (hms.mono fun v p h => TV.keepB SX nt5 gB6 (h.mono gr)).append (.cons (TV.keepB SX nt5 gB6 (tx.mono gr)) .nil), ?_, hza, ?_⟩
        · rw [hun, List.append_assoc]; rfl
        · rw [List.length_append, List.length_singleton]; lia
end

-- D7
section




set_option maxHeartbeats 2000000 in
theorem sp_rgbh {w : World} {d : Nat} {G : Ctx} {f1 f2 p1 p2 : Addr} {us1 us2 vs1 vs2 : List Value} {a1 a2 b1 b2 : Nat} {ps qs : List P3}
    (hf1 : (f1, lstO us1 a1) ∈ G.1) (hu1 : All2 (TV true G) us1 (ps.map colP)) (hf2 : (f2, lstO us2 a2) ∈ G.1) (hu2 : All2 (TV true G) us2 (qs.map colP))
    (hp1 : (p1, lstO vs1 b1) ∈ G.1) (hv1 : All2 (TV false G) vs1 (ps.map ptP)) (hp2 : (p2, lstO vs2 b2) ∈ G.1) (hv2 : All2 (TV false G) vs2 (qs.map ptP))
    (kp : ∀ p ∈ ps, Pk p) (kq : ∀ p ∈ qs, Pk p) (zp : ps.length ≤ 100) (zq : qs.length ≤ 100) :
    SpX w 226 [.ref f1, .ref f2, .ref p1, .ref p2] (d + 3) G (fun G' v => Gr G G' ∧ v = .bool true) := by
  obtain ⟨Ld, Tk⟩ := G
  intro A env h₀ L s₀ m sB Q E am S hQ
  refine' enterXL (binds := [(Str.ofString "first", .ref f1), (Str.ofString "second", .ref f2), (Str.ofString "points", .ref p1), (Str.ofString "others", .ref p2)]) am S ?ho ?hc ?hb ?hl ?c1 ?c2 ?c3 ?c4 _ ?_ hQ
  case ho => k_is
  case hc => k_is
  case hb => exact BindsTo.of_eq rfl
  case hl => exact rfl
  case c1 => decide
  case c2 => exact rfl
  case c3 => exact rfl
  case c4 => exact rfl
  intro g' L' cells s₁ env' A' m' am' hcl S₁ hlt
  clear S hQ am
  obtain ⟨o1, o2, rfl, h1, h2⟩ := hcl.two
  simp only [List.cons_append, List.nil_append] at S₁
  replace h1 : o1.data = .cell (some (.ref p2)) := h1
  replace h2 : o2.data = .cell (some (.ref p1)) := h2
  dsimp only at hf1 hf2 hp1 hp2
  have z1 : us1.length ≤ 100 := by rw [hu1.length, List.length_map]; exact zp
  have z2 : us2.length ≤ 100 := by rw [hu2.length, List.length_map]; exact zq
  obtain ⟨m0, S₁, w1, w2⟩ : ∃ m0 : NMap, St g' L' sB m0 _ s₁ ∧ m0 (Str.ofString "first") = some (.ref f1) ∧ m0 (Str.ofString "second") = some (.ref f2) := ⟨_, S₁, rfl, rfl⟩
  try with_reducible refine wpGen fun Qg1 ig1 => ?_
  repeat' (walk_at "go")
  rename_i gone cg s2 S2 hg s3 S3 kept ck s4 S4 hk s5 S5
  refine ⟨⟨_, _, _, S5⟩, ?_⟩
  have hgk : gone ≠ kept := fun e => hk _ (.head _) e
  refine sp_unord (d := d) (ds1 := ps.map colP) (ds2 := qs.map colP) (.tail _ (.head _)) (hu1.mono fun v p h => h.mono (by walk_at "gg")) (.head _) (hu2.mono fun v p h => h.mono (by walk_at "gg")) hgk (by rw [List.length_map]; exact zp) (by rw [List.length_map]; exact zq)
    _ _ _ _ _ _ _ _ _ (am'.less' (by lia)) S5 fun g2 G2 v s6 tn2 _ S6 h => ?_
  obtain ⟨gB, a, M, cM, rfl, hta, hgb, hfM, hM, hR⟩ := h
  have am2 := am'.turned tn2
  have g2r : Gr ((((L' + 2, o1) :: (L' + 1, o2) :: Ld), Tk) : Ctx) G2 := ⟨fun p hp => gB.a _ (.tail _ (.tail _ hp)) (fun hm => by
    rcases List.mem_cons.mp hm with e | e
    · exact hg p hp e
    · exact hk p (.tail _ hp) (List.mem_singleton.mp e)), gB.b⟩
  have hc1 := g2r.a _ (.head _)
  have hc2 := g2r.a _ (.tail _ (.head _))
  have gI : Gr ((Ld, Tk) : Ctx) G2 := ⟨fun p hp => g2r.a _ (.tail _ (.tail _ hp)), g2r.b⟩
  clear S2 S3 S4 S5 gB
  obtain ⟨Ld2, Tk2⟩ := G2
  dsimp only at hta hgb hc1 hc2
  have zv1 : vs1.length = ps.length := by rw [hv1.length, List.length_map]
  have zv2 : vs2.length = qs.length := by rw [hv2.length, List.length_map]
  have hp1' := gI.a _ hp1
  have hp2' := gI.a _ hp2
  dsimp only at hp1' hp2'
  try with_reducible refine wpGen fun Qg2 ig2 => ?_
  repeat' (walk_at "go")
  rename_i r t u v s7 S7
  obtain ⟨rs1, rs2⟩ := rng_down (n := vs1.length) (by lia)
  refine' ⟨_, _, _, _, _, _, _, fun i => lackK ps qs (ps.length - 1 - i), fun i G y => TV false G y (ptP (ps.getD (ps.length - 1 - i) d0)), ⟨S7, Gr.rfl, Src.rng am2.hh Gr.rfl (.head _) rs1 rs2, by lia, ?_, ?_, ?_⟩⟩
  · intro i X G₁ G' s₂ y S hX g h
    exact h.keepB S hX g
  · intro i v C G₁ s₂ oC mc hi hv S g hf hC hn
    obtain ⟨t', rfl⟩ := hv
    have hi2 : ps.length - 1 - i < ps.length := by lia
    have ek : (vs1.length : Int) - 1 + (i : Int) * -1 = ((ps.length - 1 - i : Nat) : Int) := by lia
    rw [ek]
    generalize hkk : ps.length - 1 - i = kk at hi2
    walk_at "go"
    walk_at "go"
    rename_i oC' G1 s8 S8 gB hC' hN'
    have g1 := g.off hf gB
    have q1 := g1.a _ (.tail _ hp1')
    have q2 := g1.a _ (.tail _ hp2')
    have q3 := g1.a _ (.tail _ hc1)
    have q4 := g1.a _ (.tail _ hc2)
    have gV : Gr ((Ld, Tk) : Ctx) G1 := gI.trans (Gr.obj.trans g1)
    have w1 := hv1.mono fun v p h => h.mono gV
    have w2 := hv2.mono fun v p h => h.mono gV
    have hkd : ps.getD kk d0 = ps[kk] := by simp [hi2]
    obtain ⟨x, hx, tx⟩ := w1.getq (i := kk) (y := ptP ps[kk]) (by simp [hi2])
    have hx' : vs1[((kk : Nat) : Int).toNat]? = some x := hx
    have hz1 : vs1.length ≤ 1000 := by lia
    clear g1 S g hf hC hn S7
    obtain ⟨Ld3, Tk3⟩ := G1
    dsimp only at q1 q2 q3 q4
    try with_reducible refine wpGen fun Qg3 ig3 => ?_
    repeat' (walk_at "go")
    rename_i D D' o' s9 S9 hfD
    have etn : ((kk : Int) + 1).toNat = kk + 1 := by lia
    refine count_tv S9 (am2.nbAt S9) am2.units1 (by walk_at "mm") (ds := ((ps.take (kk + 1)).map ptP)) (by rw [etn, List.map_take]; exact (w1.mono fun v p h => h.mono (by walk_at "gg")).take _) (tx.mono (by walk_at "gg")) fun t1 s10 S10 => ?_
    try with_reducible refine wpGen fun Qg4 ig4 => ?_
    repeat' (walk_at "go")
    refine ⟨⟨_, _, _, S10⟩, ?_⟩
    refine sp_beyond (d := d) (by walk_at "mm") (w1.mono fun v p h => h.mono (by walk_at "gg")) (by walk_at "mm") (w2.mono fun v p h => h.mono (by walk_at "gg")) (tx.mono (by walk_at "gg")) _ _ _ _ _ _ _ _ _ (am2.less' (by lia)) S10 fun G4 v s12 S12 h => ?_
    obtain ⟨g4, t2, rfl⟩ := h
    obtain ⟨Ld4, Tk4⟩ := G4
    have g34 := (Gr.trans (by walk_at "gg") g4 : Gr ((Ld3, Tk3) : Ctx) (Ld4, Tk4))
    replace q1 := g34.a _ q1
    replace hC' := g34.a _ hC'
    replace q4 := g34.a _ q4
    dsimp only at q1 hC' q4
    clear g4 S8 S9 S10
    try with_reducible refine wpGen fun Qg5 ig5 => ?_
    repeat' (walk_at "go")
    rw [count_pt, count_pt, count_pt]
    refine ⟨by unfold lackK; rw [hkd], ?_⟩
    refine PyProof.Rows.split_bool (fun hb => ?_) fun hb => ?_
    · try with_reducible refine wpGen fun Qg6 ig6 => ?_
      repeat' (walk_at "go")
      exact ⟨_, _, _, by with_reducible assumption, gB.trans (.of g34), by walk_at "mm", by with_reducible assumption, by rw [hkd]; exact tx.mono g34⟩
    · exact ⟨_, _, _, by with_reducible assumption, gB.trans (.of g34), by walk_at "mm", by with_reducible assumption⟩
  · intro X3 ys3 n3 G3 s9 S9 g3 hD3 hf3 ha3
    have gI3 : Gr ((Ld, Tk) : Ctx) G3 := gI.trans (Gr.obj.trans g3)
    have hc1' := g3.a _ (.tail _ hc1)
    have hc2' := g3.a _ (.tail _ hc2)
    have hp1'' := g3.a _ (.tail _ hp1')
    have hp2'' := g3.a _ (.tail _ hp2')
    have hgb' := g3.a _ (.tail _ hgb)
    clear S7
    obtain ⟨Ld3, Tk3⟩ := G3
    dsimp only at hc1' hc2' hp1'' hp2'' hgb' hD3
    try with_reducible refine wpGen fun Qg7 ig7 => ?_
    repeat' (walk_at "go")
    rename_i r4 t4 u4 v4 s10 S10
    obtain ⟨rs3, rs4⟩ := rng_up (a := 0) (n := (vs2.length : Int)) (by lia) (by lia) (by lia) (by lia)
    have en2 : (((vs2.length : Int) - 0).toNat : Int) = (vs2.length : Int) := by lia
    rw [en2] at rs4
    refine' ⟨_, _, _, _, _, _, _, fun i => leftK qs ps i, fun i G y => TV false G y (ptP (qs.getD i d0)), ⟨S10, Gr.rfl, Src.rng am2.hh Gr.rfl (.head _) rs3 rs4, by lia, ?_, ?_, ?_⟩⟩
    · intro i X G₁ G' s₂ y S hX g h
      exact h.keepB S hX g
    · intro kk v C G₁ s₂ oC mc hi hv S g hf hC hn
      obtain ⟨t', rfl⟩ := hv
      have hi2 : kk < qs.length := by lia
      have ek : (0 : Int) + (kk : Int) * 1 = ((kk : Nat) : Int) := by lia
      rw [ek]
      walk_at "go"
      walk_at "go"
      rename_i oC' G1 s8 S8 gB hC' hN'
      have g1 := g.off hf gB
      have q1 := g1.a _ (.tail _ hp1'')
      have q2 := g1.a _ (.tail _ hp2'')
      have q3 := g1.a _ (.tail _ hc1')
      have q4 := g1.a _ (.tail _ hc2')
      have gV : Gr ((Ld, Tk) : Ctx) G1 := gI3.trans (Gr.obj.trans g1)
      have w1 := hv1.mono fun v p h => h.mono gV
      have w2 := hv2.mono fun v p h => h.mono gV
      have hkd : qs.getD kk d0 = qs[kk] := by simp [hi2]
      obtain ⟨x, hx, tx⟩ := w2.getq (i := kk) (y := ptP qs[kk]) (by simp [hi2])
      have hx' : vs2[((kk : Nat) : Int).toNat]? = some x := hx
      have hz1 : vs2.length ≤ 1000 := by lia
      clear g1 S g hf hC hn S10
      obtain ⟨Ld4, Tk4⟩ := G1
      dsimp only at q1 q2 q3 q4
      try with_reducible refine wpGen fun Qg8 ig8 => ?_
      repeat' (walk_at "go")
      rename_i D D' o' s9 S9 hfD
      have etn : ((kk : Nat) : Int).toNat = kk := by lia
      refine count_tv S9 (am2.nbAt S9) am2.units1 (by walk_at "mm") (ds := ((qs.drop kk).map ptP)) (by rw [etn, List.map_drop]; exact (w2.mono fun v p h => h.mono (by walk_at "gg")).drop _) (tx.mono (by walk_at "gg")) fun t1 s10 S10 => ?_
      try with_reducible refine wpGen fun Qg9 ig9 => ?_
      repeat' (walk_at "go")
      refine ⟨⟨_, _, _, S10⟩, ?_⟩
      refine sp_beyond (d := d) (by walk_at "mm") (w2.mono fun v p h => h.mono (by walk_at "gg")) (by walk_at "mm") (w1.mono fun v p h => h.mono (by walk_at "gg")) (tx.mono (by walk_at "gg")) _ _ _ _ _ _ _ _ _ (am2.less' (by lia)) S10 fun G4 v s12 S12 h => ?_
      obtain ⟨g4, t2, rfl⟩ := h
      obtain ⟨Ld5, Tk5⟩ := G4
      have g34 := (Gr.trans (by walk_at "gg") g4 : Gr ((Ld4, Tk4) : Ctx) (Ld5, Tk5))
      replace q2 := g34.a _ q2
      replace hC' := g34.a _ hC'
      replace q3 := g34.a _ q3
      dsimp only at q2 hC' q3
      clear g4 S8 S9 S10
      try with_reducible refine wpGen fun Qg10 ig10 => ?_
      repeat' (walk_at "go")
      rw [count_pt, count_pt, count_pt]
      refine ⟨by unfold leftK; rw [hkd], ?_⟩
      refine PyProof.Rows.split_bool (fun hb => ?_) fun hb => ?_
      · try with_reducible refine wpGen fun Qg11 ig11 => ?_
        repeat' (walk_at "go")
        exact ⟨_, _, _, by with_reducible assumption, gB.trans (.of g34), by walk_at "mm", by with_reducible assumption, by rw [hkd]; exact tx.mono g34⟩
      · exact ⟨_, _, _, by with_reducible assumption, gB.trans (.of g34), by walk_at "mm", by with_reducible assumption⟩
    · intro X4 ys4 n4 G4 s9 S9 g4 hD4 hf4 ha4
      have gI4 : Gr ((Ld, Tk) : Ctx) G4 := gI3.trans (Gr.obj.trans g4)
      have hgb4 := g4.a _ (.tail _ hgb')
      have hD34 := g4.a _ (.tail _ hD3)
      clear S10
      obtain ⟨Ld4, Tk4⟩ := G4
      dsimp only at hgb4 hD4 hD34
      try with_reducible refine wpGen fun Qg12 ig12 => ?_
      repeat' (walk_at "go")
      rename_i e5 s10 S10 he5
      refine eqT S10 (am2.nbAt S10) am2.units1 (by walk_at "mm") (ds := []) .nil (by walk_at "mm") (es := []) (fl := true) .nil rfl ?_
      try with_reducible refine wpGen fun Qg13 ig13 => ?_
      repeat' (walk_at "go")
      refine ⟨⟨_, _, _, S10⟩, ?_⟩
      rw [unord_col kp kq] at hM hR
      obtain ⟨mv, mn, hMm, hMd⟩ := hM
      obtain ⟨rv, rn, hRm, hRd⟩ := hR
      have g24 : Gr ((Ld2, Tk2) : Ctx) (Ld4, Tk4) := (Gr.obj.trans g3).trans (Gr.obj.trans g4)
      obtain ⟨sub1, sub2⟩ := unord_sub ps.reverse qs
      have zz1 : (unordD ps.reverse qs).1.length ≤ 100 := by rw [lacks_eq]; unfold lacksL; rw [List.length_map]; exact Nat.le_trans (List.length_filter_le _ _) (by simpa using zp)
      have zz2 : (unordD ps.reverse qs).2.length ≤ 100 := by rw [left_eq]; unfold leftL; rw [List.length_map]; exact Nat.le_trans (List.length_filter_le _ _) (by simpa using zq)
      refine sp_lhsv (d := d) (by exact .tail _ (g24.a _ hMm)) (hMd.mono fun v p h => (h.mono g24).mono (by walk_at "gg")) (fun p hp => kp p (by simpa using sub1 p hp)) zz1 _ _ _ _ _ _ _ _ _ (am2.less' (by lia)) S10 fun G5 v s11 S11 h => ?_
      obtain ⟨g5, l5, rfl, hf5, lv5⟩ := h
      rw [zv1] at ha3
      rw [zv2] at ha4
      have a3 : All2 (TV false ((Ld3, Tk3) : Ctx)) ys3 ((lacksL ps qs).map ptP) := by
        have := All2.mapR (R := TV false ((Ld3, Tk3) : Ctx)) (g := fun i => ptP (ps.getD (ps.length - 1 - i) d0)) ha3
        unfold lacksL; rw [List.map_map]; exact this
      have a4 : All2 (TV false ((Ld4, Tk4) : Ctx)) ys4 ((leftL qs ps).map ptP) := by
        have := All2.mapR (R := TV false ((Ld4, Tk4) : Ctx)) (g := fun i => ptP (qs.getD i d0)) ha4
        unfold leftL; rw [List.map_map]; exact this
      rw [lacks_eq] at hMd sub1 zz1 lv5
      rw [left_eq] at hRd sub2 zz2
      have g34 : Gr ((Ld3, Tk3) : Ctx) (Ld4, Tk4) := Gr.obj.trans g4
      have g45 : Gr ((Ld4, Tk4) : Ctx) G5 := Gr.obj.trans g5
      obtain ⟨mv5, mn5, hm5, hd5⟩ := lv5
      have hD35 := g45.a _ hD34
      have hD45 := g45.a _ hD4
      have hR5 := g45.a _ (g24.a _ hRm)
      clear g5 S10 S9 hgb4
      obtain ⟨Ld5, Tk5⟩ := G5
      dsimp only at hm5 hD35 hD45 hR5
      have kl : ∀ p ∈ lacksL ps qs, Pk p := fun p hp => kp p (by simpa using sub1 p hp)
      have kr : ∀ p ∈ leftL qs ps, Pk p := fun p hp => kq p (sub2 p hp)
      try with_reducible refine wpGen fun Qg14 ig14 => ?_
      repeat' (walk_at "go")
      refine ⟨⟨_, _, _, S11⟩, ?_⟩
      refine sp_due (d := d) (by exact hD35) (a3.mono fun v p h => (h.mono g34).mono g45) kl zz1 _ _ _ _ _ _ _ _ _ (am2.less' (by lia)) S11 fun G6 v s12 S12 h => ?_
      obtain ⟨g6, l6, rfl, hf6, lv6⟩ := h
      obtain ⟨mv6, mn6, hm6, hd6⟩ := lv6
      have hm56 := g6.a _ hm5
      have hD46 := g6.a _ hD45
      have hR6 := g6.a _ hR5
      have hd56 := hd5.mono fun v p h => h.mono g6
      have g46 := g45.trans g6
      clear g6 S11
      obtain ⟨Ld6, Tk6⟩ := G6
      dsimp only at hm6 hm56 hD46 hR6
      try with_reducible refine wpGen fun Qg15 ig15 => ?_
      repeat' (walk_at "go")
      refine eqT S12 (am2.nbAt S12) am2.units1 hm56 hd56 hm6 hd6 rfl ?_
      try with_reducible refine wpGen fun Qg16 ig16 => ?_
      repeat' (walk_at "go")
      refine ⟨⟨_, _, _, S12⟩, ?_⟩
      refine sp_lhsv (d := d) (by exact hR6) (hRd.mono fun v p h => (h.mono g24).mono g46) kr zz2 _ _ _ _ _ _ _ _ _ (am2.less' (by lia)) S12 fun G7 v s13 S13 h => ?_
      obtain ⟨g7, l7, rfl, hf7, lv7⟩ := h
      obtain ⟨mv7, mn7, hm7, hd7⟩ := lv7
      have hD47 := g7.a _ hD46
      have g47 := g46.trans g7
      clear g7 S12
      obtain ⟨Ld7, Tk7⟩ := G7
      dsimp only at hm7 hD47
      try with_reducible refine wpGen fun Qg17 ig17 => ?_
      repeat' (walk_at "go")
      refine ⟨⟨_, _, _, S13⟩, ?_⟩
      refine sp_due (d := d) (by exact hD47) (a4.mono fun v p h => h.mono g47) kr zz2 _ _ _ _ _ _ _ _ _ (am2.less' (by lia)) S13 fun G8 v s14 S14 h => ?_
      obtain ⟨g8, l8, rfl, hf8, lv8⟩ := h
      obtain ⟨mv8, mn8, hm8, hd8⟩ := lv8
      have hm78 := g8.a _ hm7
      have hd78 := hd7.mono fun v p h => h.mono g8
      have g48 := g47.trans g8
      clear g8 S13
      obtain ⟨Ld8, Tk8⟩ := G8
      dsimp only at hm8 hm78
      try with_reducible refine wpGen fun Qg18 ig18 => ?_
      repeat' (walk_at "go")
      refine eqT S14 (am2.nbAt S14) am2.units1 hm78 hd78 hm8 hd8 rfl ?_
      try with_reducible refine wpGen fun Qg19 ig19 => ?_
      repeat' (walk_at "go")
      exact ⟨g2, _, _, tn2, S14, gI4.trans g48, rfl⟩
end

-- D8
section

theorem CellsThree {cm : Str → Option Value} {n n' n'' : Str} {c c' c'' : Addr} {cells : List (Addr × Obj)} (x : CellsAre cm [(n, c), (n', c'), (n'', c'')] cells) :
    ∃ o o' o'', cells = [(c, o), (c', o'), (c'', o'')] ∧ o.data = .cell (cm n) ∧ o'.data = .cell (cm n') ∧ o''.data = .cell (cm n'') := by
  cases x with | cons h r => cases r with | cons h' r => cases r with | cons h'' r => cases r; exact ⟨_, _, _, rfl, h, h', h''⟩
theorem stCell {prog : Program} {w : World} {A : Around} {E : Value → Shared → Prop} {h₀ : Heap} {L : Addr} {s₀ s : Shared} {m : NMap} {G : Ctx} {env : Env} {x : Str} {v : Value} {c : Addr} {o : Obj} {v₀ : Option Value} {Q : Unit → Shared → Prop} (S : St h₀ L s₀ m G s) (hm : (c, o) ∈ G.1) (ho : o.data = .cell v₀)
    (h : ∀ o' G' s', St h₀ L s₀ m G' s' → GrB [c] G G' → (c, o') ∈ G'.1 → o'.data = .cell (some v) → Q () s')
    (hk : env.scope.kind = .function) (hl : env.kindOf x = some .cell) (hc : env.cells.lookup x = some c) : wpAny (model prog w) A (storeName env x v) Q E s := by
  refine wpAny_storeName_cell hk hl hc ⟨o, S.get hm, ho⟩ fun h' hn' hs => ?_
  obtain ⟨o', ho', hd'⟩ := hn'
  exact h o' _ _ (S.upd1 hm hs ho') outO_gr (outO_add (.head _)) hd'
theorem Amb.st' {K : Frag} {p : Program} {loose : List Str} {A : Around} {env : Env} {h₀ : Heap} {L : Addr} {d : Nat} (am : Amb K p loose A env h₀ L d) : ∃ c n, ∃ K : Frag, K.In h₀ ∧ K.lookup cStatics = some ⟨c, none, .dict #[] n, #[]⟩ := by
  obtain ⟨c, n, h⟩ := am.stat
  exact ⟨c, n, K, am.X, h⟩

section
variable {prog : Program} {w : World} {A : Around} {E : Value → Shared → Prop} {h₀ : Heap} {L : Addr} {s₀ s : Shared} {m : NMap} {G : Ctx} {fl : Bool}
theorem c_lt (S : St h₀ L s₀ m G s) (nb : NoneBooked s.heap) (hu : A.units < cLine) {v u : Value} {d e : List Int} {Q : Value → Shared → Prop} (hv : TV fl G v d) (hw : TV fl G u e) (h : Q (.bool (decide (d < e))) s) : wpAny (model prog w) A (compareOp .Lt v u) Q E s := lt_tv S nb hu hv hw _ _ _ _ h
theorem c_gt (S : St h₀ L s₀ m G s) (nb : NoneBooked s.heap) (hu : A.units < cLine) {v u : Value} {d e : List Int} {Q : Value → Shared → Prop} (hv : TV fl G v d) (hw : TV fl G u e) (h : Q (.bool (decide (e < d))) s) : wpAny (model prog w) A (compareOp .Gt v u) Q E s := gt_tv S nb hu hv hw _ _ _ _ h
end

def lowD (ps qs : List (List Int)) (i : Nat) : Bool := decide (ps.idxOf (ps.getD i []) = i) && (decide (ps.getD i [] < maxD [-1, 0, 0] qs) && !decide (ps.getD i [] ∈ qs))
def onceD (ps qs : List (List Int)) : List (List Int) := ((List.range ps.length).filter (lowD ps qs)).map fun i => ps.getD i []
def highD (ps qs : List (List Int)) : List (List Int) := ps.filter fun p => decide (maxD [-1, 0, 0] qs < p)

set_option maxHeartbeats 2000000 in
theorem sp_alone {w : World} {d : Nat} {G : Ctx} {l1 l2 : Addr} {vs us : List Value} {n k : Nat} {ps qs : List (List Int)}
    (hl1 : (l1, lstO vs n) ∈ G.1) (hd1 : All2 (TV false G) vs ps) (hl2 : (l2, lstO us k) ∈ G.1) (hd2 : All2 (TV false G) us qs) (hz1 : ps.length < 64) (hz2 : qs.length < 64) (h3 : ∀ p ∈ ps, p.length = 3) :
    Sp w 231 [.ref l1, .ref l2] (d + 1) G (fun G' v => Gr G G' ∧ ∃ l es fs, v = .ref l ∧ (∀ p ∈ G.1, p.1 ≠ l) ∧ LV false G' l (es ++ fs) ∧ es.Perm (onceD ps qs) ∧ Rises es ∧ fs.Perm (highD ps qs) ∧ Rises fs) := by
  obtain ⟨Ld, Tk⟩ := G
  intro A env h₀ L s₀ m s Q E am S hQ
  refine' enterCL (binds := [(Str.ofString "points", .ref l1), (Str.ofString "others", .ref l2)]) am S ?ho ?hc ?hb ?hl ?c1 ?c2 ?c3 ?c4 _ ?_ hQ
  case ho => k_is
  case hc => k_is
  case hb => exact BindsTo.of_eq rfl
  case hl => exact rfl
  case c1 => decide
  case c2 => exact rfl
  case c3 => exact rfl
  case c4 => exact rfl
  intro g' L' cells s₁ env' A' m' am' hcl S₁ hlt
  clear S hQ am
  obtain ⟨o1, o2, o3, rfl, k1, k2, k3⟩ := CellsThree hcl
  simp only [List.cons_append, List.nil_append] at S₁
  replace k1 : o1.data = .cell none := k1
  replace k2 : o2.data = .cell (some (.ref l2)) := k2
  replace k3 : o3.data = .cell (some (.ref l1)) := k3
  dsimp only at hl1 hl2
  have zv1 := hd1.length
  have zv2 := hd2.length
  try with_reducible refine wpGen fun Qg1 ig1 => ?_
  repeat' (walk_at "go")
  refine c_cat (us := [_]) (by with_reducible assumption) (by walk_at "mm") (by walk_at "mm") (by have e : ([(0 : Nat)]).length = 1 := rfl; simp only [List.length_cons, List.length_nil]; lia) fun D s2 S2 hfD => ?_
  simp only [List.cons_append, List.nil_append] at S2
  try with_reducible refine wpGen fun Qg2 ig2 => ?_
  repeat' (walk_at "go")
  refine c_max (fl := false) am'.hh am'.units1 (fun _ _ S => am'.nbAt S) S2 (.head _) (d0 := [-1, 0, 0]) (ds := qs) (.cons ⟨_, _, rfl, by walk_at "mm", .cons NV.int (.cons NV.int (.cons NV.int .nil))⟩ (hd2.mono fun v p h => h.mono (by walk_at "gg"))) fun vt G2 s3 S3 g2 hvt => ?_
  have q1 := g2.a (L' + 3, o1) (by walk_at "mm")
  have q2 := g2.a (L' + 2, o2) (by walk_at "mm")
  have q3 := g2.a (L' + 1, o3) (by walk_at "mm")
  have gV : Gr ((Ld, Tk) : Ctx) G2 := Gr.trans (by walk_at "gg") g2
  clear S2
  obtain ⟨Ld2, Tk2⟩ := G2
  dsimp only at q1 q2 q3
  refine stCell S3 q1 k1 (fun o1' G3 s4 S4 gB hC hk => ?_) rfl rfl rfl
  have nt : NT ((Ld2, Tk2) : Ctx) [L' + 3] := .cons q1 (by intro cls; exact fun e => by rw [e] at k1; cases k1) .nil
  have hd1' := hd1.mono fun v p h => TV.keepB S3 nt gB (h.mono gV)
  have hd2' := hd2.mono fun v p h => TV.keepB S3 nt gB (h.mono gV)
  have hvt' := TV.keepB S3 nt gB hvt
  have n1 : ∀ p ∈ ((Ld, Tk) : Ctx).1, p.1 ∉ [L' + 3] := fun p hp hm => by
    have := hlt p hp
    rw [List.mem_singleton.mp hm] at this; exact absurd this (Nat.not_lt.mpr (Nat.le_add_right _ _))
  have r2 := gB.a _ q2 (by simp)
  have r3 := gB.a _ q3 (by simp)
  have m1 := gB.a _ (gV.a _ hl1) (n1 _ hl1)
  have m2 := gB.a _ (gV.a _ hl2) (n1 _ hl2)
  have gV3 : Gr ((Ld, Tk) : Ctx) G3 := ⟨fun p hp => gB.a _ (gV.a _ hp) (n1 p hp), fun p hp => gB.b _ (gV.b _ hp)⟩
  clear S3 gB
  obtain ⟨Ld3, Tk3⟩ := G3
  dsimp only at hC r2 r3 m1 m2
  try with_reducible refine wpGen fun Qg3 ig3 => ?_
  repeat' (walk_at "go")
  refine c_enm S4 m1 fun e I G5 s5 S5 g5 hi5 he5 hne5 hf5 => ?_
  refine' ⟨_, _, _, ((Ld3, Tk3) : Ctx), _, _, _, fun i => lowD ps qs i, fun i G y => TV false G y (ps.getD i []), ⟨S5, g5, Src.enm am'.hh he5 hi5 hne5 (g5.a _ m1) hf5, ?_, ?_, ?_, ?_⟩⟩
  · lia
  · intro i X G₁ G' s₂ y S hX g h
    exact h.keepB S hX g
  · intro i v C G₁ s₂ oC mc hi hv S g hf hC' hn
    obtain ⟨a, t, u, rfl, hu, ha⟩ := hv
    refine asg2 S ha am'.hh hC' hn (fun oC' G1 s8 S8 gB hC2 hN2 => ?_) rfl rfl rfl
    have g1 := g.off hf gB
    have x1 := g1.a _ hC
    have x2 := g1.a _ r2
    have x3 := g1.a _ r3
    have x4 := g1.a _ m1
    have x5 := g1.a _ m2
    have d1 := hd1'.mono fun v p h => h.mono g1
    have d2 := hd2'.mono fun v p h => h.mono g1
    have tt := hvt'.mono g1
    have hi2 : i < ps.length := by have h0 : i < vs.length := hi; lia
    have hkd : ps.getD i [] = ps[i] := by simp [hi2]
    obtain ⟨u', eu, tu⟩ := d1.getq (i := i) (y := ps[i]) (by simp [hi2])
    rw [hu] at eu; cases eu
    clear S g hf hC' hn ha
    obtain ⟨Ld6, Tk6⟩ := G1
    dsimp only at x1 x2 x3 x4 x5 hC2
    try with_reducible refine wpGen fun Qg4 ig4 => ?_
    repeat' (walk_at "go")
    refine index_tv (by with_reducible assumption) (am'.nbAt (by with_reducible assumption)) am'.units1 x4 d1 tu (List.getElem_mem hi2) (by lia) fun t2 s9 S9 => ?_
    rw [hkd.symm] at tu ⊢
    try with_reducible refine wpGen fun Qg5 ig5 => ?_
    repeat' (walk_at "go")
    · rename_i hb1
      have e1 : List.idxOf (ps.getD i []) ps = i := by have := eq_of_beq hb1; lia
      refine c_lt (by with_reducible assumption) (am'.nbAt (by with_reducible assumption)) am'.units0 (tu.mono (by walk_at "gg")) (tt.mono (by walk_at "gg")) ?_
      try with_reducible refine wpGen fun Qg6 ig6 => ?_
      repeat' (walk_at "go")
      · rename_i hb2
        refine notIn_tv (by with_reducible assumption) (am'.nbAt (by with_reducible assumption)) am'.units1 (by walk_at "mm") d2 tu ?_
        try with_reducible refine wpGen fun Qg7 ig7 => ?_
        repeat' (walk_at "go")
        · rename_i hb3
          refine ⟨by unfold lowD; rw [decide_eq_true e1, hb2, hb3]; rfl, ?_⟩
          rw [if_pos rfl]
          try with_reducible refine wpGen fun Qg8 ig8 => ?_
          repeat' (walk_at "go")
          exact ⟨_, _, _, by with_reducible assumption, gB.trans (.of (by walk_at "gg")), by walk_at "mm", by with_reducible assumption, tu.mono (by walk_at "gg")⟩
        · rename_i hb3
          refine ⟨by unfold lowD; rw [decide_eq_true e1, hb2, hb3]; rfl, ?_⟩
          rw [if_neg (by decide)]
          exact ⟨_, _, _, by with_reducible assumption, gB.trans (.of (by walk_at "gg")), by walk_at "mm", by with_reducible assumption⟩
      · rename_i hb2
        refine ⟨by unfold lowD; rw [decide_eq_true e1, hb2]; rfl, ?_⟩
        rw [if_neg (by decide)]
        exact ⟨_, _, _, by with_reducible assumption, gB.trans (.of (by walk_at "gg")), by walk_at "mm", by with_reducible assumption⟩
    · rename_i hb1
      have e1 : List.idxOf (ps.getD i []) ps ≠ i := fun h => by rw [h] at hb1; simp at hb1
      refine ⟨by unfold lowD; rw [decide_eq_false e1]; rfl, ?_⟩
      rw [if_neg (by decide)]
      exact ⟨_, _, _, by with_reducible assumption, gB.trans (.of (by walk_at "gg")), by walk_at "mm", by with_reducible assumption⟩
  · intro X6 ys6 n6 G6 s6 S6 g6 hD6 hf6 ha6
    rw [zv1] at ha6
    have a6 : All2 (TV false G6) ys6 (onceD ps qs) := All2.mapR (R := TV false G6) (g := fun i => ps.getD i []) ha6
    have gV6 : Gr ((Ld, Tk) : Ctx) G6 := gV3.trans g6
    have x1 := g6.a _ hC
    have x2 := g6.a _ r2
    have x3 := g6.a _ r3
    have x4 := g6.a _ m1
    have d1 := hd1'.mono fun v p h => h.mono g6
    have tt := hvt'.mono g6
    have ol : (onceD ps qs).length ≤ ps.length := by unfold onceD; rw [List.length_map]; exact Nat.le_trans (List.length_filter_le _ _) (by rw [List.length_range]; exact Nat.le_refl _)
    have o3' : ∀ p ∈ onceD ps qs, p.length = 3 := fun p hp => by
      unfold onceD at hp
      obtain ⟨i, hi, rfl⟩ := List.mem_map.mp hp
      have hi' : i < ps.length := List.mem_range.mp (List.mem_filter.mp hi).1
      have : ps.getD i [] = ps[i] := by simp [hi']
      rw [this]; exact h3 _ (List.getElem_mem hi')
    have hl3 : (highD ps qs).length ≤ ps.length := by unfold highD; exact List.length_filter_le _ _
    have hh3 : ∀ p ∈ highD ps qs, p.length = 3 := fun p hp => h3 p (List.mem_filter.mp hp).1
    clear S5 S4 ha6 g6
    obtain ⟨Ld6, Tk6⟩ := G6
    dsimp only at x1 x2 x3 x4 hD6
    try with_reducible refine wpGen fun Qg9 ig9 => ?_
    repeat' (walk_at "go")
    refine c_sorted S6 am'.st' hD6 a6 o3' (by lia) fun D7 c7 us7 es s7 S7 hf7 hes hperm hrise => ?_
    try with_reducible refine wpGen fun Qg10 ig10 => ?_
    repeat' (walk_at "go")
    refine' ⟨_, _, _, _, _, _, _, _, fun i => decide (maxD [-1, 0, 0] qs < ps.getD i []), fun i G y => TV false G y (ps.getD i []), ⟨S7, Gr.rfl, Src.list am'.hh Gr.rfl (.tail _ x4), ?_, ?_, ?_, ?_⟩⟩
    · lia
    · intro i X G₁ G' s₂ y S hX g h
      exact h.keepB S hX g
    · intro i v C G₁ s₂ oC mc hi hv S g hf hC' hn
      have hi2 : i < ps.length := by have h0 : i < vs.length := hi; lia
      have hkd : ps.getD i [] = ps[i] := by simp [hi2]
      walk_at "go"
      walk_at "go"
      rename_i oC' G1 s8 S8 gB hC2 hN2
      have g1 := g.off hf gB
      have gd : Gr ((Ld6, Tk6) : Ctx) G1 := Gr.obj.trans g1
      have y1 := gd.a _ x1
      have d1' := d1.mono fun v p h => h.mono gd
      have tt' := tt.mono gd
      obtain ⟨u', eu, tu⟩ := d1'.getq (i := i) (y := ps[i]) (by simp [hi2])
      rw [hv] at eu; cases eu
      rw [hkd]
      clear g1 S g hf hC' hn
      obtain ⟨Ld8, Tk8⟩ := G1
      dsimp only at y1 hC2
      try with_reducible refine wpGen fun Qg11 ig11 => ?_
      repeat' (walk_at "go")
      refine c_gt (by with_reducible assumption) (am'.nbAt (by with_reducible assumption)) am'.units0 (tu.mono (by walk_at "gg")) (tt'.mono (by walk_at "gg")) ?_
      try with_reducible refine wpGen fun Qg12 ig12 => ?_
      repeat' (walk_at "go")
      refine ⟨rfl, ?_⟩
      refine PyProof.Rows.split_bool (fun hb => ?_) fun hb => ?_
      · try with_reducible refine wpGen fun Qg13 ig13 => ?_
        repeat' (walk_at "go")
        exact ⟨_, _, _, by with_reducible assumption, gB.trans (.of (by walk_at "gg")), by walk_at "mm", by with_reducible assumption, tu.mono (by walk_at "gg")⟩
      · exact ⟨_, _, _, by with_reducible assumption, gB.trans (.of (by walk_at "gg")), by walk_at "mm", by with_reducible assumption⟩
    · intro X8 ys8 n8 G8 s8 S8 g8 hD8 hf8 ha8
      rw [zv1] at ha8
      have a8 : All2 (TV false G8) ys8 (highD ps qs) := by
        have := All2.mapR (R := TV false G8) (g := fun i => ps.getD i []) ha8
        unfold highD
        rw [← filter_getD ps [] (fun p => decide (maxD [-1, 0, 0] qs < p))]
        exact this
      have gV8 : Gr ((Ld6, Tk6) : Ctx) G8 := Gr.obj.trans g8
      have k7 := g8.a _ (.head _)
      have hes8 := hes.mono fun v p h => h.mono gV8
      clear S7
      obtain ⟨Ld8, Tk8⟩ := G8
      dsimp only at k7 hD8
      try with_reducible refine wpGen fun Qg14 ig14 => ?_
      repeat' (walk_at "go")
      refine c_sorted S8 am'.st' hD8 a8 hh3 (by lia) fun D9 c9 us9 fs s9 S9 hf9 hfs hperm9 hrise9 => ?_
      have z7 : us7.length = (onceD ps qs).length := by rw [hes.length, hperm.length_eq]
      have z9 : us9.length = (highD ps qs).length := by rw [hfs.length, hperm9.length_eq]
      try with_reducible refine wpGen fun Qg15 ig15 => ?_
      repeat' (walk_at "go")
      refine c_cat S9 (by exact .tail _ k7) (.head _) (by lia) fun D10 s10 S10 hf10 => ?_
      try with_reducible refine wpGen fun Qg16 ig16 => ?_
      repeat' (walk_at "go")
      have gL : Gr ((Ld, Tk) : Ctx) ((D10, lstO (us7 ++ us9) 0) :: (D9, lstO us9 c9) :: Ld8, Tk8) := gV6.trans (gV8.trans (by walk_at "gg"))
      exact ⟨_, _, S10, gL, _, es, fs, rfl, fun p hp => hf10 p (.tail _ (gV8.a _ (gV6.a _ hp))), ⟨_, _, .head _, (hes8.mono fun v p h => h.mono (by walk_at "gg")).append (hfs.mono fun v p h => h.mono (by walk_at "gg"))⟩, hperm, hrise, hperm9, hrise9⟩
end

-- T1
section

section
variable {prog : Program} {w : World} {A : Around} {E : Value → Shared → Prop} {h₀ : Heap} {L : Addr} {s₀ s : Shared} {m : NMap} {G : Ctx}
theorem l_ext {D b : Addr} {ys us : List Value} {n n2 : Nat} {Q : Value → Shared → Prop} (S : St h₀ L s₀ m G s) (hm : (D, lstO ys n) ∈ G.1) (hb : (b, lstO us n2) ∈ G.1) (hz : ys.length + us.length ≤ 1000)
    (h : ∀ c G' s', St h₀ L s₀ m G' s' → GrB [D] G G' → (D, lstO (ys ++ us) c) ∈ G'.1 → Q .none s') : wpAny (model prog w) A (call (.builtin "list.extend") [.ref D, .ref b]) Q E s := by
  have hsz : ys.toArray.size + us.toArray.size ≤ sizeLine := by rw [List.size_toArray, List.size_toArray, sizeLine_eq]; lia
  refine call_meets PySem.F.slot_list_extend ⟨_, S.get hm, rfl⟩ PySem.F.entry_list_extend (PySem.F.args_list_extend_2 _ _) (AutoSeq1.list_extend_list_list_0 D ys.toArray n b us.toArray n2 (extend_door hsz) (Nat.le_trans (Nat.le_add_right _ _) hsz) (Nat.le_succ_of_le hsz)) ⟨S.get hm, S.get hb, ?_⟩
  have e : ys.toArray ++ us.toArray = (ys ++ us).toArray := by simp
  obtain ⟨c, ho⟩ : ∃ c, (s.heap.update D (Obj.mapSeq fun x => x ++ us.toArray)).get? D = some (lstO (ys ++ us) c) := by
    have := get?_update_seq (S.get hm) (fun x => x ++ us.toArray)
    rw [e] at this
    exact ⟨_, this⟩
  exact h c _ _ (S.upd1 hm (Heap.SameBut.update ..) ho) outO_gr (outO_add (.head _))
theorem WhileE {env : Env} {test : Expr} {body : List Stmt} {pos : Pos} {Q : Flow → Shared → Prop} (J : Nat → Shared → Prop) (n : Nat) (j0 : J n s)
    (turn : ∀ n s, J n s → wpAny (model prog w) A (isTrue test env (eval test env)) (fun b s₂ => if b = true then wpAny (model prog w) A (execs body env) (fun f s₃ => match f with
        | .next | .cont => ∃ k, k < n ∧ J k s₃
        | .brk => Q .next s₃
        | .ret v => Q (.ret v) s₃) (notedBy (model prog w) A env (cameBackBy (model prog w) A env E)) s₂ else Q .next s₂) (notedBy (model prog w) A env (cameBackBy (model prog w) A env E)) s) :
    wpAny (model prog w) A (exec (.While test body [] pos) env) Q E s := by
  refine wpAny_While (codeAny_whileLoop J (fun n s j => wpAny_mono (turn n s j) (fun b s₂ h => ?_) fun _ _ e => e) n j0)
  cases b with
  | false =>
    simp only [Bool.false_eq_true, if_false] at h ⊢
    exact wpAny_execs_nil h
  | true =>
    simp only [if_true] at h ⊢
    refine wpAny_mono h (fun f s₃ h => ?_) fun _ _ e => e
    cases f <;> exact h
end

section
variable {K : Frag} {p : Program} {loose : List Str} {A : Around} {env : Env} {h₀ : Heap} {L : Addr} {d : Nat} {s₀ s : Shared} {m : NMap} {G : Ctx} {M : Model} {E : Value → Shared → Prop}
theorem note_came {A' : Around} (hA' : A'.frames = A.frames) (am : Amb K p loose A env h₀ L d) (S : St h₀ L s₀ m G s) {h' : Heap} {tk : Nat} {e : Addr} {X : String} {ctx : Value} (hx : Fresh s.heap h' e X ctx) (ht : s.toks ≤ tk)
    (k : ∀ g' tb G' s₂, Tn A h₀ g' → Amb K p loose A env g' L d → St g' L s₀ m G' s₂ → Gr G G' → (∀ q ∈ G.1, q.1 ≠ e ∧ q.1 ≠ tb) → ExcIn G' e tb X ctx (rawInt L) → E (.ref e) s₂) :
    notedBy M A' env (cameBackBy M A' env E) (.ref e) { s with heap := h', toks := tk } := by
  refine note_newG hA' am S hx ht fun g' tb G' s₂ tn am' S' gr hne hex => ?_
  refine came S' am.fr hex fun G2 s3 S3 gB hex2 => ?_
  exact k g' tb G2 s3 tn am' S3 ⟨fun q hq => gB.a _ (gr.a q hq) (by simpa using (hne q hq).2), fun q hq => gB.b _ (gr.b q hq)⟩ hne hex2
end

end

-- T2
section

section
variable {prog : Program} {w : World} {A : Around} {E : Value → Shared → Prop} {h₀ : Heap} {L : Addr} {s₀ s : Shared} {m : NMap} {G : Ctx} {fl : Bool}
theorem rc_tv (S : St h₀ L s₀ m G s) (nb : NoneBooked s.heap) (hu : A.units < cLine) {v u : Value} {d e : List Int} (hv : TV fl G v d) (hw : TV fl G u e) : RcAt A s v u (decide (d = e)) := by
  obtain ⟨a, xs, rfl, ha, hx⟩ := hv
  obtain ⟨b, ys, rfl, hb, hy⟩ := hw
  have lx := hx.length
  have ly := hy.length
  have r := RcAt.tuples (A := A) (e := fun j => decide (d[j]? = e[j]?)) (S.isTuple ha) (S.isTuple hb) hu (fun j h1 h2 => by
    have h1' : j < d.length := by simpa [lx] using h1
    have h2' : j < e.length := by simpa [ly] using h2
    have q := eq_scalars (A := A.in1) S nb (hx.get j (by simpa using h1) h1') (hy.get j (by simpa using h2) h2')
    have e1 : decide (d[j]? = e[j]?) = decide (d[j] = e[j]) := by simp [h1', h2']
    rw [e1]; simpa using q)
  have e2 : ((List.range (min xs.toArray.size ys.toArray.size)).all (fun j => decide (d[j]? = e[j]?)) && xs.toArray.size == ys.toArray.size) = decide (d = e) := by
    rw [Bool.eq_iff_iff]
    simp only [Bool.and_eq_true, List.all_eq_true, List.mem_range, decide_eq_true_eq, beq_iff_eq, List.size_toArray]
    constructor
    · rintro ⟨h1, h2⟩
      apply List.ext_getElem (by lia)
      intro i h3 h4
      have := h1 i (by lia)
      simpa [h3, h4] using this
    · rintro rfl
      exact ⟨fun _ _ => rfl, by lia⟩
  rw [e2] at r
  exact r
theorem c_eq {Q : Value → Shared → Prop} (S : St h₀ L s₀ m G s) (nb : NoneBooked s.heap) (hu : A.units < cLine) {v u : Value} {d e : List Int} (hv : TV fl G v d) (hw : TV fl G u e) (h : Q (.bool (decide (d = e))) s) : wpAny (model prog w) A (compareOp .Eq v u) Q E s := rc_tv S nb hu hv hw _ _ _ _ h
end

section
variable {K : Frag} {p : Program} {loose : List Str} {prog : Program} {w : World} {A : Around} {E : Value → Shared → Prop} {h₀ : Heap} {L : Addr} {d : Nat} {s₀ s : Shared} {m : NMap} {G : Ctx} {fl : Bool}
  {cn : Str} {cs : Scope} {a : Addr} {ccd : Value} {cl : List (Str × Addr)}
theorem ldL2 {x : Str} {v : Value} {Q : Value → Shared → Prop} (S : St h₀ L s₀ m G s) (hv : m x = some v) (h : Q v s)
    (hk : cs.kind = .function := by rfl) (hx : (envX cn cs L a ccd cl).kindOf x = some .local := by rfl) :
    wpAny (model prog w) A (loadName (envX cn cs L a ccd cl) x) Q E s := wpAny_loadName_local hk hx S.F.ns hv h

theorem skip_loop {lx iv ev : Str} {p1 p2 p3 p4 p5 p6 p7 p8 p9 : Pos} {k1 : Nat} {l : Addr} {vs : List Value} {n : Nat} {ds : List (List Int)} {u : Value} {x : List Int} {i t : Nat} {Q : Flow → Shared → Prop}
    (nb : ∀ m G s, St h₀ L s₀ m G s → NoneBooked s.heap) (hu : A.units < cLine)
    (S : St h₀ L s₀ m G s) (hl : (l, lstO vs n) ∈ G.1) (hd : All2 (TV fl G) vs ds) (tx : TV fl G u x) (ml : m lx = some (.ref l)) (mi : m iv = some (.int (i : Int) t)) (me : m ev = some u) (hi : i ≤ ds.length) (hz : ds.length ≤ 100)
    (n1 : lx ≠ iv) (n2 : ev ≠ iv)
    (raise : ∀ {m' s' t' Q'}, St h₀ L s₀ m' G s' → m' iv = some (.int (ds.length : Int) t') → (∀ y, y ≠ iv → m' y = m y) → (ds.drop i).dropWhile (fun y => decide (y = x)) = [] →
      wpAny (model prog w) A (subscriptTail (.Name lx p1) (.Name iv p2) (.ref l) (.int (ds.length : Int) t')) Q' (notedBy (model prog w) A (envX cn cs L a ccd cl) (cameBackBy (model prog w) A (envX cn cs L a ccd cl) E)) s')
    (done : ∀ m' s' k t', St h₀ L s₀ m' G s' → m' iv = some (.int ((k : Nat) : Int) t') → (∀ y, y ≠ iv → m' y = m y) → i ≤ k → k ≤ ds.length → ds.drop k = (ds.drop i).dropWhile (fun y => decide (y = x)) → Q .next s')
    (hk : cs.kind = .function := by rfl) (hx1 : (envX cn cs L a ccd cl).kindOf lx = some .local := by rfl) (hx2 : (envX cn cs L a ccd cl).kindOf iv = some .local := by rfl) (hx3 : (envX cn cs L a ccd cl).kindOf ev = some .local := by rfl)
    (d1 : (lx == ("__debug__" : Str)) = false := by decide) (d2 : (iv == ("__debug__" : Str)) = false := by decide) (d3 : (ev == ("__debug__" : Str)) = false := by decide) :
    wpAny (model prog w) A (exec (.While (.Compare (.Subscript (.Name lx p1) (.Name iv p2) p3) [.Eq] [.Name ev p4] p5) [.AugAssign (.Name iv p6) .Add (.Constant (.int 1) k1 p7) p8] [] p9) (envX cn cs L a ccd cl)) Q E s := by
  have hlen := hd.length
  refine WhileE (fun r s => ∃ m' k t', St h₀ L s₀ m' G s ∧ m' iv = some (.int ((k : Nat) : Int) t') ∧ (∀ y, y ≠ iv → m' y = m y) ∧ i ≤ k ∧ k ≤ ds.length ∧ r = ds.length - k ∧ (ds.drop k).dropWhile (fun y => decide (y = x)) = (ds.drop i).dropWhile (fun y => decide (y = x))) _ ⟨m, i, t, S, mi, fun _ _ => rfl, Nat.le_refl _, hi, rfl, rfl⟩ ?_
  rintro r s1 ⟨m1, k, t1, S1, e1, e2, h1, h2, rfl, h3⟩
  refine wpAny_isTrue_Compare1 ?_ (by with_unfolding_all rfl)
  refine Subscript_ ?_
  refine nmL S1 ((e2 _ n1).trans ml) ?_ hk hx1 d1
  refine nmL S1 e1 ?_ hk hx2 d2
  by_cases hlt : k < ds.length
  · have hlt' : k < vs.length := by lia
    have hdk : ds.drop k = ds[k] :: ds.drop (k + 1) := List.drop_eq_getElem_cons hlt
    refine gIt S1 hl (by lia) (by lia) (x := vs[k]) (by simp [hlt']) ?_
    refine nmL S1 ((e2 _ n2).trans me) ?_ hk hx3 d3
    refine c_eq S1 (nb _ _ _ S1) hu (hd.get k hlt' hlt) tx ?_
    refine wpAny_truthy_bool ?_
    by_cases hq : ds[k] = x
    · rw [decide_eq_true hq, if_pos rfl]
      refine wpAny_execs_cons (wpAny_AugAssign_Name (ldL2 S1 e1 ?_ hk hx2))
      refine cInt S1 fun t2 s2 S2 => ?_
      refine iAug S2 fun t3 s3 S3 => ?_
      refine stL S3 (fun s4 S4 => ?_) hk hx2
      refine wpAny_execs_nil ⟨ds.length - (k + 1), by lia, _, k + 1, t3, S4, ?_, fun y hy => ?_, by lia, by lia, rfl, ?_⟩
      · show (if iv = iv then _ else _) = _
        rw [if_pos rfl]; rfl
      · show (if y = iv then _ else _) = _
        rw [if_neg hy]; exact e2 y hy
      · rw [← h3, hdk, List.dropWhile_cons, if_pos (decide_eq_true hq)]
    · rw [decide_eq_false hq, if_neg (by decide)]
      refine done m1 s1 k t1 S1 e1 e2 h1 h2 ?_
      rw [← h3, hdk, List.dropWhile_cons, if_neg (by simpa using hq)]
  · have hk2 : k = ds.length := by lia
    subst hk2
    refine raise S1 e1 e2 ?_
    rw [← h3, List.drop_length]; rfl
end

def sld : List (List Int) → List (List Int) → List (List Int) × List (List Int)
  | [], as => ([], as)
  | e :: es, [] => (e :: es, [])
  | e :: es, a :: as =>
    if e < a then (e :: (sld (es.dropWhile fun y => decide (y = e)) (a :: as)).1, (sld (es.dropWhile fun y => decide (y = e)) (a :: as)).2)
    else if a < e then ((sld (e :: es) (as.dropWhile fun y => decide (y = a))).1, a :: (sld (e :: es) (as.dropWhile fun y => decide (y = a))).2)
    else sld (es.dropWhile fun y => decide (y = e)) (as.dropWhile fun y => decide (y = a))
termination_by es as => es.length + as.length
decreasing_by all_goals (have h1 := (List.dropWhile_sublist (fun y => decide (y = e)) (l := es)).length_le; have h2 := (List.dropWhile_sublist (fun y => decide (y = a)) (l := as)).length_le; simp only [List.length_cons]; lia)
end

-- T2b
section

section
variable {K : Frag} {p : Program} {loose : List Str} {prog : Program} {w : World} {A : Around} {E : Value → Shared → Prop} {h₀ : Heap} {L : Addr} {d : Nat} {s₀ s : Shared} {m : NMap} {G : Ctx}
  {cn : Str} {cs : Scope} {a : Addr} {ccd : Value} {cl : List (Str × Addr)} {env : Env}
def Came (K : Frag) (p : Program) (loose : List Str) (A : Around) (env : Env) (h₀ : Heap) (L : Addr) (d : Nat) (s₀ : Shared) (X : String) (R : NMap → Ctx → Prop) (e : Value) (s : Shared) : Prop :=
  ∃ g m G G0 ea tb ctx, e = .ref ea ∧ Tn A h₀ g ∧ Amb K p loose A env g L d ∧ St g L s₀ m G s ∧ ExcIn G ea tb X ctx (rawInt L) ∧ Gr G0 G ∧ (∀ q ∈ G0.1, q.1 ≠ ea ∧ q.1 ≠ tb) ∧ R m G0

theorem Came.new {M : Model} {X : String} {R : NMap → Ctx → Prop} (am : Amb K p loose A env h₀ L d) (S : St h₀ L s₀ m G s) {h' : Heap} {tk : Nat} {e : Addr} {ctx : Value} (hx : Fresh s.heap h' e X ctx) (ht : s.toks ≤ tk) (r : R m G) :
    wpAny M A (noteFrame (.ref e) env) (fun _ s₂ => Came K p loose A env h₀ L d s₀ X R (.ref e) s₂) E { s with heap := h', toks := tk } :=
  note_new am S hx ht fun g' tb G' s₂ tn am' S' gr hne hex => ⟨g', m, G', G, e, tb, ctx, rfl, tn, am', S', hex, gr, hne, r⟩
theorem Came.old {M : Model} {X : String} {R : NMap → Ctx → Prop} {e : Value} (h : Came K p loose A env h₀ L d s₀ X R e s) : wpAny M A (noteFrame e env) (fun _ s₂ => Came K p loose A env h₀ L d s₀ X R e s₂) E s := by
  obtain ⟨g, m, G, G0, ea, tb, ctx, rfl, tn, am, S, hex, r⟩ := id h
  exact note_old S am.fr hex h
theorem Came.loop {A' : Around} (hA' : A'.frames = A.frames) {M : Model} {X : String} {R : NMap → Ctx → Prop} (am : Amb K p loose A env h₀ L d) (S : St h₀ L s₀ m G s) {h' : Heap} {tk : Nat} {e : Addr} {ctx : Value} (hx : Fresh s.heap h' e X ctx) (ht : s.toks ≤ tk) (r : R m G)
    (hE : ∀ v s, Came K p loose A env h₀ L d s₀ X R v s → E v s) :
    notedBy M A' env (cameBackBy M A' env E) (.ref e) { s with heap := h', toks := tk } :=
  note_came hA' am S hx ht fun g' tb G' s₂ tn am' S' gr hne hex => hE _ _ ⟨g', m, G', G, e, tb, ctx, rfl, tn, am', S', hex, gr, hne, r⟩

theorem Came.two {A' A'' : Around} {M : Model} {X : String} {R : NMap → Ctx → Prop} {v : Value} (h : Came K p loose A env h₀ L d s₀ X R v s) (hE : ∀ v s, Came K p loose A env h₀ L d s₀ X R v s → E v s) : notedBy M A' env (cameBackBy M A'' env E) v s := by
  obtain ⟨g, m, G, G0, ea, tb, ctx, rfl, tn, am, S, hex, gr, hne, r⟩ := h
  refine note_old S am.fr hex ?_
  refine came S am.fr hex fun G' s' S' gB hex' => hE _ _ ⟨g, m, G', G0, ea, tb, ctx, rfl, tn, am, S', hex', ⟨fun q hq => gB.a _ (gr.a q hq) (by simpa using (hne q hq).2), fun q hq => gB.b _ (gr.b q hq)⟩, hne, r⟩
theorem Came.base {X : String} {R : NMap → Ctx → Prop} {v : Value} {g : Heap} (tn : Tn A h₀ g) (h : Came K p loose A env g L d s₀ X R v s) : Came K p loose A env h₀ L d s₀ X R v s := by
  obtain ⟨g', m, G, G0, ea, tb, ctx, e, tn', r⟩ := h
  exact ⟨g', m, G, G0, ea, tb, ctx, e, tn.trans tn', r⟩

theorem TryE {X : String} {R : NMap → Ctx → Prop} {x : Str} {np pos pos' : Pos} {b₀ : Stmt} {suite body : List Stmt} {Q : Flow → Shared → Prop} {base : Heap} (am0 : Amb K p loose A (envX cn cs L a ccd cl) base L d)
    (ex : nsIn K mainGlobals x = some none) (hv : bootBuiltins x = some (.type X))
    (hexc : isSubtype (.type X) (.type "BaseException") = pure true) (hnt : isSubtype (.type ((Manifest.find? X).elim "type" fun y => y.metatype)) (.type "tuple") = pure false) (hsub : isSubtype (.type X) (.type X) = pure true)
    (hb : wpAny (model prog w) A (execs body (envX cn cs L a ccd cl)) Q
      (fun e s₁ => wpAny (model prog w) A (noteFrame e (envX cn cs L a ccd cl)) (fun _ s₂ => Came K p loose A (envX cn cs L a ccd cl) h₀ L d s₀ X R e s₂) (fun _ _ => False) s₁) s)
    (hh : ∀ g m G G0 ea s, Tn A h₀ g → Amb K p loose A (envX cn cs L a ccd cl) g L d → St g L s₀ m G s → Gr G0 G → R m G0 → wpAny (model prog w) (A.mark (some (.ref ea))) (execs (b₀ :: suite) (envX cn cs L a ccd cl)) Q noE s)
    (hn' : x ≠ "__name__" := by decide) (hk : cs.kind = .function := by rfl) (hkx : (envX cn cs L a ccd cl).kindOf x = some .globalImplicit := by rfl) (hb' : (x == ("__debug__" : Str)) = false := by decide) :
    wpAny (model prog w) A (exec (.Try body [.ExceptHandler (some (.Name x np)) none (b₀ :: suite) pos'] [] [] pos) (envX cn cs L a ccd cl)) Q E s := by
  refine wpAny_Try_except (wpAny_mono hb (fun f s₁ h => ?_) fun e s₁ h => ?_)
  · cases f with
    | next => exact wpAny_execs_nil h
    | _ => exact h
  · refine wpAny_mono h (fun _ s₂ h => ?_) fun _ _ h => h.elim
    obtain ⟨g, m, G, G0, ea, tb, ctx, rfl, tn, am, S, hex, gr, hne, r⟩ := h
    refine set_fl S hex none fun G1 s3 S3 g3 hex3 => ?_
    refine handle_ am S3 hex3 ex hv hexc hnt hsub (fun G4 s4 S4 g4 => ?_) hn' hk hkx hb'
    exact hh g m G4 G0 ea s4 tn am S4 ⟨fun q hq => g4.a _ (g3.a _ (gr.a q hq) (by simpa using (hne q hq).2)) (by simpa using (hne q hq).2), fun q hq => g4.b _ (g3.b _ (gr.b q hq))⟩ r
end
end

-- T3
section

inductive SlS (l1 l2 M U : Addr) (G₀ : Ctx) (i j : Nat) (ms us : List (List Int)) (m : NMap) (G : Ctx) : Prop where
  | mk (ti tj : Tok) (ys zs : List Value) (c3 c4 : Nat) (e1 : m (Str.ofString "expected") = some (.ref l1)) (e2 : m (Str.ofString "actual") = some (.ref l2)) (e3 : m (Str.ofString "missing") = some (.ref M)) (e4 : m (Str.ofString "unexpected") = some (.ref U))
    (e5 : m (Str.ofString "i") = some (.int (i : Int) ti)) (e6 : m (Str.ofString "j") = some (.int (j : Int) tj)) (gb : Gr G₀ G) (q1 : (M, lstO ys c3) ∈ G.1) (t1 : All2 (TV true G) ys ms) (q2 : (U, lstO zs c4) ∈ G.1) (t2 : All2 (TV true G) zs us) : SlS l1 l2 M U G₀ i j ms us m G
inductive SlR (l1 l2 M U : Addr) (G₀ : Ctx) (ds1 ds2 : List (List Int)) (m : NMap) (G : Ctx) : Prop where
  | mk (i j : Nat) (ms us : List (List Int)) (h : SlS l1 l2 M U G₀ i j ms us m G) (h1 : ms.length ≤ i) (h2 : us.length ≤ j) (h3 : i ≤ ds1.length) (h4 : j ≤ ds2.length) (h5 : sld ds1 ds2 = (ms ++ ds1.drop i, us ++ ds2.drop j)) : SlR l1 l2 M U G₀ ds1 ds2 m G
inductive SlI (T : Heap → Prop) (L' : Addr) (sB : Shared) (l1 l2 M U : Addr) (G₀ : Ctx) (ds1 ds2 : List (List Int)) (r : Nat) (s : Shared) : Prop where
  | mk (g1 : Heap) (m : NMap) (G1 : Ctx) (i j : Nat) (ms us : List (List Int)) (h1 : T g1) (h2 : St g1 L' sB m G1 s) (h3 : SlS l1 l2 M U G₀ i j ms us m G1) (h4 : i ≤ ds1.length) (h5 : j ≤ ds2.length) (h6 : ms.length ≤ i) (h7 : us.length ≤ j)
    (h8 : sld ds1 ds2 = (ms ++ (sld (ds1.drop i) (ds2.drop j)).1, us ++ (sld (ds1.drop i) (ds2.drop j)).2)) (h9 : r = (ds1.length - i) + (ds2.length - j)) : SlI T L' sB l1 l2 M U G₀ ds1 ds2 r s
set_option maxHeartbeats 400000 in
theorem sp_sld {w : World} {d : Nat} {G : Ctx} {l1 l2 : Addr} {vs1 vs2 : List Value} {n1 n2 : Nat} {ds1 ds2 : List (List Int)} (hl1 : (l1, lstO vs1 n1) ∈ G.1) (hd1 : All2 (TV true G) vs1 ds1) (hl2 : (l2, lstO vs2 n2) ∈ G.1) (hd2 : All2 (TV true G) vs2 ds2)
    (hz1 : ds1.length ≤ 100) (hz2 : ds2.length ≤ 100) :
    SpX w 92 [.ref l1, .ref l2] (d + 1) G (fun G' v => Gr G G' ∧ ∃ a M U, v = .ref a ∧ (a, tupO [.ref M, .ref U]) ∈ G'.1 ∧ 
      LV true G' M (sld ds1 ds2).1 ∧ LV true G' U (sld ds1 ds2).2) := by
  intro A env h₀ L s₀ m sB Q E am S hQ
  refine' enterXL (binds := [(Str.ofString "expected", .ref l1), (Str.ofString "actual", .ref l2)]) am S ?ho ?hc ?hb ?hl ?c1 ?c2 ?c3 ?c4 _ ?_ hQ
  case ho => k_is
  case hc => k_is
  case hb => exact BindsTo.of_eq rfl
  case hl => exact rfl
  case c1 => decide
  case c2 => exact rfl
  case c3 => exact rfl
  case c4 => exact rfl
  intro g' L' cells s₁ env' A' m' am' hcl S₁ hlt
  clear S hQ am
  cases hcl
  simp only [List.nil_append] at S₁
  obtain ⟨Ld, Tk⟩ := G
  repeat' (walk_at "go")
  rename_i t0 s2 S2 s3 S3 s4 S4 M s5 S5 hfM s6 S6 U s7 S7 hfU s8 S8
  dsimp only at hl1 hl2 hfM hfU
  have hMU : M ≠ U := hfU _ (.head _)
  have fM : ∀ q ∈ ((Ld, Tk) : Ctx).1, q.1 ≠ M := hfM
  have fU : ∀ q ∈ ((Ld, Tk) : Ctx).1, q.1 ≠ U := fun q hq => hfU q (.tail _ hq)
  have hL1 := hd1.length
  have hL2 := hd2.length
  refine wpGen fun Q0 i0 => ?_
  refine WhileE (SlI (am'.To ·) L' sB l1 l2 M U (Ld, Tk) ds1 ds2) _ ⟨g', _, _, 0, 0, [], [], am'.to0, S8, ⟨_, _, [], [], 0, 0, rfl, rfl, rfl, rfl, rfl, rfl, by walk_at "gg", by walk_at "mm", .nil, by walk_at "mm", .nil⟩, Nat.zero_le _, Nat.zero_le _, Nat.le_refl _, Nat.le_refl _, rfl, rfl⟩ ?_
  rintro r s9 ⟨g1, m1, G1, i, j, ms, us, hT, S9, hS, hi, hj, hmi, huj, hun, rfl⟩
  have am1 := am'.to_at hT
  clear S8 S7 S6 S5 S4 S3 S2
  refine wpGen fun Qa ia => ?_
  walk_at "go"
  walk_at "go"
  walk_at "go"
  walk_at "go"
  refine wpAny_execs_cons ?_
  refine TryE (h₀ := g1) (s₀ := sB) (X := "IndexError") (R := SlR l1 l2 M U (Ld, Tk) ds1 ds2) am1 (k_IndexError _) PyProof.Rows.Boot.«IndexError» PySem.F.isExc_IndexError PySem.F.notTuple_IndexError (by rw [isSubtype_type]; kernel_rfl) ?_ ?_ (by decide) rfl rfl (by decide)
  · refine wpGen fun Qb ib => ?_
    have hS' := hS
    obtain ⟨ti, tj, ys, zs, c3, c4, e1, e2, e3, e4, e5, e6, gb, q1, t1, q2, t2⟩ := hS
    have x1 := gb.a _ hl1
    have x2 := gb.a _ hl2
    have b1 := hd1.mono fun v p h => h.mono gb
    have b2 := hd2.mono fun v p h => h.mono gb
    repeat' (walk_at "go")
    by_cases hi1 : i < ds1.length
    rotate_left
    · refine gOut S9 x1 am1.hh (by lia) (by lia) fun h' tk ex hfr htk => ?_
      have ed : ds1.drop i = [] := List.drop_eq_nil_of_le (by lia)
      exact Came.new am1 S9 hfr htk ⟨i, j, ms, us, hS', hmi, huj, hi, hj, by rw [hun, ed]; simp only [sld]⟩
    · refine gIt S9 x1 (by lia) (by lia) (x := vs1[i]'(by lia)) (by simp) ?_
      repeat' (walk_at "go")
      rename_i s10 S10
      by_cases hj1 : j < ds2.length
      rotate_left
      · refine gOut S10 x2 am1.hh (by lia) (by lia) fun h' tk ex hfr htk => ?_
        have ed : ds2.drop j = [] := List.drop_eq_nil_of_le (by lia)
        exact Came.new am1 S10 hfr htk ⟨i, j, ms, us, ⟨ti, tj, ys, zs, c3, c4, by exact e1, by exact e2, by exact e3, by exact e4, by exact e5, by exact e6, gb, q1, t1, q2, t2⟩, hmi, huj, hi, hj, by rw [hun, ed]; cases ds1.drop i <;> simp only [sld]⟩
      · refine gIt S10 x2 (by lia) (by lia) (x := vs2[j]'(by lia)) (by simp) ?_
        have tx := b1.get i (by lia) hi1
        have ty := b2.get j (by lia) hj1
        repeat' (walk_at "go")
        rename_i s11 S11
        have zy : ys.length ≤ 1000 := by have := t1.length; lia
        have zz : zs.length ≤ 1000 := by have := t2.length; lia
        refine c_lt S11 (am1.nbAt S11) am1.units0 tx ty ?_
        clear S9 S10
        repeat' (walk_at "go")
        · rename_i hb G5 s12 S12 gB hD t5 s13 S13 t6 s14 S14 s15 S15
          have ntM : NT G1 [M] := .cons q1 lst_nt .nil
          have d1 := b1.mono fun v p h => TV.keepB S11 ntM gB h
          have x1' := gB.a _ x1 (by simpa using fM _ hl1)
          have tx' := TV.keepB S11 ntM gB tx
          refine skip_loop (i := i + 1) (t := t6) (fun m G s S => am1.nbAt S) am1.units0 S15 x1' d1 tx' (by exact e1) (by exact rfl) (by exact rfl) (by lia) hz1 (by decide) (by decide) ?_ ?_
          · intro m' s' t' Q' S' e' eo ed
            have hb' : ds1[i] < ds2[j] := of_decide_eq_true hb
            have hun2 : sld ds1 ds2 = ((ms ++ [ds1[i]]) ++ ds1.drop ds1.length, us ++ ds2.drop j) := by
              rw [hun, List.drop_eq_getElem_cons hi1, List.drop_eq_getElem_cons hj1]
              rw [sld, if_pos hb', ed]
              simp [sld]
            refine gOut S' x1' am1.hh (by lia) (by lia) fun h' tk ex hfr htk => ?_
            refine Came.loop rfl am1 S' hfr htk ⟨ds1.length, j, ms ++ [ds1[i]], us, ⟨t', tj, _, zs, _, c4, (eo _ (by decide)).trans e1, (eo _ (by decide)).trans e2, (eo _ (by decide)).trans e3, (eo _ (by decide)).trans e4, e', (eo _ (by decide)).trans e6, ⟨fun q hq => gB.a _ (gb.a _ hq) (by simpa using fM q hq), fun q hq => gB.b _ (gb.b _ hq)⟩, hD, (t1.mono fun v p h => TV.keepB S11 ntM gB h).append (.cons tx' .nil), gB.a _ q2 (by simpa using Ne.symm hMU), t2.mono fun v p h => TV.keepB S11 ntM gB h⟩, by rw [List.length_append, List.length_singleton]; lia, huj, Nat.le_refl _, hj, hun2⟩ fun v s h => Came.old h
          · intro m' s' k t' S' e' eo hk1 hk2 ed
            have hb' : ds1[i] < ds2[j] := of_decide_eq_true hb
            repeat' (walk_at "go")
            refine ⟨_, ?_, g1, m', G5, k, j, ms ++ [ds1[i]], us, hT, S', ⟨t', tj, _, zs, _, c4, (eo _ (by decide)).trans e1, (eo _ (by decide)).trans e2, (eo _ (by decide)).trans e3, (eo _ (by decide)).trans e4, e', (eo _ (by decide)).trans e6, ⟨fun q hq => gB.a _ (gb.a _ hq) (by simpa using fM q hq), fun q hq => gB.b _ (gb.b _ hq)⟩, hD, (t1.mono fun v p h => TV.keepB S11 ntM gB h).append (.cons tx' .nil), gB.a _ q2 (by simpa using Ne.symm hMU), t2.mono fun v p h => TV.keepB S11 ntM gB h⟩, hk2, hj, by rw [List.length_append, List.length_singleton]; lia, huj, ?_, rfl⟩
            · lia
            · rw [hun, List.drop_eq_getElem_cons hi1, List.drop_eq_getElem_cons hj1]
              rw [sld, if_pos hb', ed, ← List.drop_eq_getElem_cons hj1]
              simp
        · rename_i hb
          have hn1 : ¬ ds1[i] < ds2[j] := of_decide_eq_false hb
          refine c_gt S11 (am1.nbAt S11) am1.units0 tx ty ?_
          repeat' (walk_at "go")
          · rename_i hb2 G5 s12 S12 gB hD t5 s13 S13 t6 s14 S14 s15 S15
            have hb' : ds2[j] < ds1[i] := of_decide_eq_true hb2
            have ntM : NT G1 [U] := .cons q2 lst_nt .nil
            have d1 := b2.mono fun v p h => TV.keepB S11 ntM gB h
            have x1' := gB.a _ x2 (by simpa using fU _ hl2)
            have tx' := TV.keepB S11 ntM gB ty
            refine skip_loop (i := j + 1) (t := t6) (fun m G s S => am1.nbAt S) am1.units0 S15 x1' d1 tx' (by exact e2) (by exact rfl) (by exact rfl) (by lia) hz2 (by decide) (by decide) ?_ ?_
            · intro m' s' t' Q' S' e' eo ed
              have hun2 : sld ds1 ds2 = (ms ++ ds1.drop i, (us ++ [ds2[j]]) ++ ds2.drop ds2.length) := by
                rw [hun, List.drop_eq_getElem_cons hi1, List.drop_eq_getElem_cons hj1]
                rw [sld, if_neg hn1, if_pos hb', ed, sld]
                simp
              refine gOut S' x1' am1.hh (by lia) (by lia) fun h' tk ex hfr htk => ?_
              refine Came.loop rfl am1 S' hfr htk ⟨i, ds2.length, ms, us ++ [ds2[j]], ⟨ti, t', ys, _, c3, _, (eo _ (by decide)).trans e1, (eo _ (by decide)).trans e2, (eo _ (by decide)).trans e3, (eo _ (by decide)).trans e4, (eo _ (by decide)).trans e5, e', ⟨fun q hq => gB.a _ (gb.a _ hq) (by simpa using fU q hq), fun q hq => gB.b _ (gb.b _ hq)⟩, gB.a _ q1 (by simpa using hMU), t1.mono fun v p h => TV.keepB S11 ntM gB h, hD, (t2.mono fun v p h => TV.keepB S11 ntM gB h).append (.cons tx' .nil)⟩, hmi, by rw [List.length_append, List.length_singleton]; lia, hi, Nat.le_refl _, hun2⟩ fun v s h => Came.old h
            · intro m' s' k t' S' e' eo hk1 hk2 ed
              repeat' (walk_at "go")
              refine ⟨_, ?_, g1, m', G5, i, k, ms, us ++ [ds2[j]], hT, S', ⟨ti, t', ys, _, c3, _, (eo _ (by decide)).trans e1, (eo _ (by decide)).trans e2, (eo _ (by decide)).trans e3, (eo _ (by decide)).trans e4, (eo _ (by decide)).trans e5, e', ⟨fun q hq => gB.a _ (gb.a _ hq) (by simpa using fU q hq), fun q hq => gB.b _ (gb.b _ hq)⟩, gB.a _ q1 (by simpa using hMU), t1.mono fun v p h => TV.keepB S11 ntM gB h, hD, (t2.mono fun v p h => TV.keepB S11 ntM gB h).append (.cons tx' .nil)⟩, hi, hk2, hmi, by rw [List.length_append, List.length_singleton]; lia, ?_, rfl⟩
              · lia
              · rw [hun, List.drop_eq_getElem_cons hi1, List.drop_eq_getElem_cons hj1]
                rw [sld, if_neg hn1, if_pos hb', ed, ← List.drop_eq_getElem_cons hi1]
                simp
          · rename_i hb2 t5 s13 S13 t6 s14 S14 s15 S15
            have hn2 : ¬ ds2[j] < ds1[i] := of_decide_eq_false hb2
            have hst : sld (ds1.drop i) (ds2.drop j) = sld ((ds1.drop (i + 1)).dropWhile fun y => decide (y = ds1[i])) ((ds2.drop (j + 1)).dropWhile fun y => decide (y = ds2[j])) := by
              rw [List.drop_eq_getElem_cons hi1, List.drop_eq_getElem_cons hj1, sld, if_neg hn1, if_neg hn2]
            refine wpAny_Try_finally ?_
            refine wpAny_execs_cons ?_
            refine skip_loop (i := i + 1) (t := t6) (fun m G s S => am1.nbAt S) am1.units0 S15 x1 b1 tx (by exact e1) (by exact rfl) (by exact rfl) (by lia) hz1 (by decide) (by decide) ?_ ?_
            · intro m' s' t' Q' S' e' eo ed
              have o1 : m' (Str.ofString "expected") = some (.ref l1) := (eo _ (by decide)).trans e1
              have o2 : m' (Str.ofString "actual") = some (.ref l2) := (eo _ (by decide)).trans e2
              have o3 : m' (Str.ofString "missing") = some (.ref M) := (eo _ (by decide)).trans e3
              have o4 : m' (Str.ofString "unexpected") = some (.ref U) := (eo _ (by decide)).trans e4
              have o6 : m' (Str.ofString "j") = some (.int (j : Int) tj) := (eo _ (by decide)).trans e6
              have o7 : m' (Str.ofString "a") = some (vs2[j]'(by lia)) := (eo _ (by decide)).trans rfl
              refine gOut S' x1 am1.hh (by lia) (by lia) fun h' tk ex hfr htk => ?_
              refine note_came rfl am1 S' hfr htk fun g2 tb G2 s16 tn2 am2 S16 gr2 hne2 hex2 => ?_
              refine note_old S16 am2.fr hex2 ?_
              refine ⟨ref_ne_byPass _, note_old S16 am2.fr hex2 ?_⟩
              refine set_fl S16 hex2 none fun G3 s17 S17 gB3 hex3 => ?_
              have g13 : Gr G1 G3 := ⟨fun q hq => gB3.a _ (gr2.a q hq) (by simpa using (hne2 q hq).2), fun q hq => gB3.b _ (gr2.b q hq)⟩
              have x2' := g13.a _ x2
              have b2' := b2.mono fun v p h => h.mono g13
              have ty' := ty.mono g13
              clear S11 S13 S14 S15 S' S16
              repeat' (walk_at "go")
              rename_i t7 s18 S18 t8 s19 S19 s20 S20
              refine skip_loop (i := j + 1) (t := t8) (fun m G s S => am2.nbAt S) (by exact am2.units0) S20 x2' b2' ty' (by exact o2) (by exact rfl) (by exact o7) (by lia) hz2 (by decide) (by decide) ?_ ?_
              · intro m'' s'' t'' Q'' S'' e'' eo'' ed''
                have hun2 : sld ds1 ds2 = (ms ++ ds1.drop ds1.length, us ++ ds2.drop ds2.length) := by
                  rw [hun, hst, ed, ed'']; simp [sld]
                refine gOutH S'' x2' rfl hex3 (by lia) (by lia) fun h'' tk'' ex2 hfr2 htk2 => ?_
                refine Came.loop (R := SlR l1 l2 M U (Ld, Tk) ds1 ds2) ?hA am2 S'' hfr2 htk2 ⟨ds1.length, ds2.length, ms, us, ⟨t', t'', ys, zs, c3, c4, (eo'' _ (by decide)).trans o1, (eo'' _ (by decide)).trans o2, (eo'' _ (by decide)).trans o3, (eo'' _ (by decide)).trans o4, (eo'' _ (by decide)).trans e', e'', gb.trans g13, g13.a _ q1, t1.mono fun v p h => h.mono g13, g13.a _ q2, t2.mono fun v p h => h.mono g13⟩, by lia, by lia, Nat.le_refl _, Nat.le_refl _, hun2⟩ fun v s h => ?_
                case hA => exact rfl
                exact Came.two h fun v s h => Came.old (Came.base tn2 h)
              · intro m'' s'' k t'' S'' e'' eo'' hk1 hk2 ed''
                have hun2 : sld ds1 ds2 = (ms ++ ds1.drop ds1.length, us ++ ds2.drop k) := by
                  rw [hun, hst, ed, ← ed'']; simp [sld]
                refine wpAny_execs_nil ?_
                refine pass_on S'' am2.fr hex3 fun G4 s21 S21 gB4 hex4 => ?_
                have g14 : Gr G1 G4 := ⟨fun q hq => gB4.a _ (g13.a q hq) (by simpa using (hne2 q hq).2), fun q hq => gB4.b _ (g13.b q hq)⟩
                refine Came.old (Came.base tn2 ?_)
                exact ⟨g2, m'', G4, G1, ex, tb, .none, rfl, am2.tn0, am2, S21, hex4, g14, hne2, ⟨ds1.length, k, ms, us, ⟨t', t'', ys, zs, c3, c4, (eo'' _ (by decide)).trans o1, (eo'' _ (by decide)).trans o2, (eo'' _ (by decide)).trans o3, (eo'' _ (by decide)).trans o4, (eo'' _ (by decide)).trans e', e'', gb, q1, t1, q2, t2⟩, by lia, by lia, Nat.le_refl _, hk2, hun2⟩⟩
            · intro m' s' k t' S' e' eo hk1 hk2 ed
              have o1 : m' (Str.ofString "expected") = some (.ref l1) := (eo _ (by decide)).trans e1
              have o2 : m' (Str.ofString "actual") = some (.ref l2) := (eo _ (by decide)).trans e2
              have o3 : m' (Str.ofString "missing") = some (.ref M) := (eo _ (by decide)).trans e3
              have o4 : m' (Str.ofString "unexpected") = some (.ref U) := (eo _ (by decide)).trans e4
              have o6 : m' (Str.ofString "j") = some (.int (j : Int) tj) := (eo _ (by decide)).trans e6
              have o7 : m' (Str.ofString "a") = some (vs2[j]'(by lia)) := (eo _ (by decide)).trans rfl
              clear S11 S13 S14 S15
              repeat' (walk_at "go")
              rename_i t7 s18 S18 t8 s19 S19 s20 S20
              refine skip_loop (i := j + 1) (t := t8) (fun m G s S => am1.nbAt S) (by exact am1.units0) S20 x2 b2 ty (by exact o2) (by exact rfl) (by exact o7) (by lia) hz2 (by decide) (by decide) ?_ ?_
              · intro m'' s'' t'' Q'' S'' e'' eo'' ed''
                have hun2 : sld ds1 ds2 = (ms ++ ds1.drop k, us ++ ds2.drop ds2.length) := by
                  rw [hun, hst, ← ed, ed'', List.drop_length]; cases ds1.drop k <;> simp [sld]
                refine gOut S'' x2 am1.hh (by lia) (by lia) fun h'' tk'' ex2 hfr2 htk2 => ?_
                refine Came.loop (R := SlR l1 l2 M U (Ld, Tk) ds1 ds2) rfl am1 S'' hfr2 htk2 ⟨k, ds2.length, ms, us, ⟨t', t'', ys, zs, c3, c4, (eo'' _ (by decide)).trans o1, (eo'' _ (by decide)).trans o2, (eo'' _ (by decide)).trans o3, (eo'' _ (by decide)).trans o4, (eo'' _ (by decide)).trans e', e'', gb, q1, t1, q2, t2⟩, by lia, by lia, hk2, Nat.le_refl _, hun2⟩ fun v s h => ?_
                exact Came.two h fun v s h => Came.old h
              · intro m'' s'' k2 t'' S'' e'' eo'' hk3 hk4 ed''
                clear S18 S19 S20
                repeat' (walk_at "go")
                refine ⟨_, ?_, g1, m'', G1, k, k2, ms, us, hT, S'', ⟨t', t'', ys, zs, c3, c4, (eo'' _ (by decide)).trans o1, (eo'' _ (by decide)).trans o2, (eo'' _ (by decide)).trans o3, (eo'' _ (by decide)).trans o4, (eo'' _ (by decide)).trans e', e'', gb, q1, t1, q2, t2⟩, hk2, hk4, by lia, by lia, ?_, rfl⟩
                · lia
                · rw [hun, hst, ← ed, ← ed'']
  · rintro g3 m3 G3 G0 ea s3 tn3 am3 S3 gr3 ⟨i, j, ms, us, ⟨ti, tj, ys, zs, c3, c4, e1, e2, e3, e4, e5, e6, gb, q1, t1, q2, t2⟩, hmi, huj, hi, hj, hun⟩
    have hl1' := gr3.a _ (gb.a _ hl1)
    have hl2' := gr3.a _ (gb.a _ hl2)
    have q1' := gr3.a _ q1
    have q2' := gr3.a _ q2
    have zy := t1.length
    have zz := t2.length
    clear S9
    obtain ⟨Ld3, Tk3⟩ := G3
    dsimp only at hl1' hl2' q1' q2'
    repeat' (walk_at "go")
    have ti' : ((i : Nat) : Int).toNat = i := by lia
    have tj' : ((j : Nat) : Int).toNat = j := by lia
    have bM : All2 (TV true ((Ld3, Tk3) : Ctx)) ys ms := t1.mono fun v p h => h.mono gr3
    have bU : All2 (TV true ((Ld3, Tk3) : Ctx)) zs us := t2.mono fun v p h => h.mono gr3
    have b1 : All2 (TV true ((Ld3, Tk3) : Ctx)) vs1 ds1 := hd1.mono fun v p h => (h.mono gb).mono gr3
    have b2 : All2 (TV true ((Ld3, Tk3) : Ctx)) vs2 ds2 := hd2.mono fun v p h => (h.mono gb).mono gr3
    rename_i D D' o' s4 S4 hf4
    refine l_ext S4 (by walk_at "mm") (by walk_at "mm") (by rw [List.length_drop]; lia) fun c5 G5 s5 S5 gB5 hM5 => ?_
    have fMl2 : l2 ∉ [M] := by simpa using fM _ hl2
    have fMU : U ∉ [M] := by simpa using Ne.symm hMU
    have k2 := gB5.a (l2, lstO vs2 n2) (by walk_at "mm") fMl2
    have k4 := gB5.a (U, lstO zs c4) (by walk_at "mm") fMU
    have S4' := S4
    have nt5 : NT ((((D, lstO (List.drop ((i : Nat) : Int).toNat vs1) 0) :: (D', o') :: Ld3, Tk3)) : Ctx) [M] := .cons (a := M) (.tail _ (.tail _ q1')) lst_nt .nil
    have gx : Gr ((Ld3, Tk3) : Ctx) ((D, lstO (List.drop ((i : Nat) : Int).toNat vs1) 0) :: (D', o') :: Ld3, Tk3) := by walk_at "gg"
    have cM : All2 (TV true G5) (ys ++ vs1.drop ((i : Nat) : Int).toNat) (ms ++ ds1.drop i) := by
      rw [ti']
      exact (bM.mono fun v p h => TV.keepB S4' nt5 gB5 (h.mono gx)).append ((b1.drop i).mono fun v p h => TV.keepB S4' nt5 gB5 (h.mono gx))
    have cU : All2 (TV true G5) zs us := bU.mono fun v p h => TV.keepB S4' nt5 gB5 (h.mono gx)
    have c2 : All2 (TV true G5) vs2 ds2 := b2.mono fun v p h => TV.keepB S4' nt5 gB5 (h.mono gx)
    have gA : Gr ((Ld, Tk) : Ctx) G5 := ⟨fun q hq => gB5.a _ (gx.a _ (gr3.a _ (gb.a _ hq))) (by simpa using fM q hq), fun q hq => gB5.b _ (gx.b _ (gr3.b _ (gb.b _ hq)))⟩
    clear S4
    obtain ⟨Ld5, Tk5⟩ := G5
    dsimp only at hM5 k2 k4
    repeat' (walk_at "go")
    rename_i E5 E' o5 s6 S6 hf6
    have nU : (U, lstO zs c4) ∈ ((E5, lstO (List.drop ((j : Nat) : Int).toNat vs2) 0) :: (E', o5) :: Ld5) := .tail _ (.tail _ k4)
    refine l_ext S6 nU (by walk_at "mm") (by rw [List.length_drop]; lia) fun c7 G7 s7 S7 gB7 hU7 => ?_
    have nt7 : NT ((((E5, lstO (List.drop ((j : Nat) : Int).toNat vs2) 0) :: (E', o5) :: Ld5, Tk5)) : Ctx) [U] := .cons (a := U) nU lst_nt .nil
    have gy : Gr ((Ld5, Tk5) : Ctx) ((E5, lstO (List.drop ((j : Nat) : Int).toNat vs2) 0) :: (E', o5) :: Ld5, Tk5) := by walk_at "gg"
    have dU : All2 (TV true G7) (zs ++ vs2.drop ((j : Nat) : Int).toNat) (us ++ ds2.drop j) := by
      rw [tj']
      exact (cU.mono fun v p h => TV.keepB S6 nt7 gB7 (h.mono gy)).append ((c2.drop j).mono fun v p h => TV.keepB S6 nt7 gB7 (h.mono gy))
    have dM := cM.mono fun v p h => TV.keepB S6 nt7 gB7 (h.mono gy)
    have k7 := gB7.a _ (gy.a _ hM5) (by simpa using hMU)
    have gC : Gr ((Ld, Tk) : Ctx) G7 := ⟨fun q hq => gB7.a _ (gy.a _ (gA.a _ hq)) (by simpa using fU q hq), fun q hq => gB7.b _ (gy.b _ (gA.b _ hq))⟩
    clear S6
    obtain ⟨Ld7, Tk7⟩ := G7
    dsimp only at hU7 k7
    repeat' (walk_at "go")
    rw [hun]
    exact ⟨g3, _, _, Amb.to_on hT tn3, by with_reducible assumption, gC.trans (by walk_at "gg"), _, M, U, rfl, by walk_at "mm", ⟨_, _, .tail _ k7, dM.mono fun v p h => h.mono (by walk_at "gg")⟩, ⟨_, _, .tail _ hU7, dU.mono fun v p h => h.mono (by walk_at "gg")⟩⟩
end

-- U1
section
open AutoSeq1 (wpAny_loadPart')

abbrev objO : Obj := { cls := .type "object", data := .plain }
theorem mro_object : mroOf (.type "object") = pure [.type "object"] := by rw [mroOf_type]; kernel_rfl
theorem lookup_object_new : typeLookup (.type "object") "__new__" = pure (some (.builtin "object.__new__")) := by rw [typeLookup_type, builtinLookup_eq_fast]; kernel_rfl
theorem called_object : TypeCalled "object" "object.__new__" "object.__init__" :=
  ⟨by decide +kernel, by decide +kernel, ⟨_, _, mro_object⟩, madeBy_type mro_object lookup_object_new (by decide +kernel), by decide +kernel, by rw [isSubtype_type]; kernel_rfl, PySem.F.slot_object_init⟩
theorem typeCall_object : checkTypeCall "object" ⟨[], []⟩ = pure () := by kernel_rfl
theorem newCall_object : checkBuiltinCall "object.__new__" ⟨[.type "object"], []⟩ = pure () := by kernel_rfl
theorem madeHere_object : Bind.madeHere "object.__new__" (.type "object") = pure () := by
  unfold Bind.madeHere
  have e : Bind.staticBase (.type "object") = pure (.type "object") := by first | rfl | kernel_rfl
  rw [e]
  simp only [pure_bind, called_object.made]
  first | rfl | kernel_rfl | (simp; rfl)
theorem meets_object_new : Meets (Builtin.«object.__new__» ⟨[.type "object"], []⟩) (fun _ R s => R (.ok (.ret (.ref s.heap.objs.size))) { s with heap := s.heap.push objO }) :=
  .of_wp fun prog w A R s h => by
    obtain ⟨hp, g, d, tk, os⟩ := s
    have hmh := madeHere_object
    unfold Builtin.«object.__new__»
    wp_walk
    all_goals first | exact ⟨_, rfl, h⟩ | exact h
theorem meets_object_init0 (self : Value) : Meets (Builtin.«object.__init__» ⟨[self], []⟩) (fun _ R s => R (.ok (.ret .none)) s) :=
  .of_wp fun prog w A R s h => wpAny_pure ⟨_, rfl, h⟩
section
variable {prog : Program} {w : World} {A : Around} {E : Value → Shared → Prop} {h₀ : Heap} {L : Addr} {s₀ s : Shared} {m : NMap} {Q : Value → Shared → Prop}
theorem c_object {Ld : Led} {Tk : Tks} (S : St h₀ L s₀ m (Ld, Tk) s) (h : ∀ a s', St h₀ L s₀ m ((a, objO) :: Ld, Tk) s' → (∀ p ∈ Ld, p.1 ≠ a) → Q (.ref a) s') : wpAny (model prog w) A (call (.type "object") []) Q E s := by
  refine callType_meets (Q₁ := fun obj s₁ => obj = .ref s.heap.objs.size ∧ s₁ = { s with heap := s.heap.push objO }) called_object typeCall_object newCall_object (PySem.F.objNew.entry) PySem.F.entry_object_init meets_object_new ⟨rfl, rfl⟩ ?_
  rintro obj s₁ ⟨rfl, rfl⟩
  refine ⟨⟨objO, Heap.get?_push_size _ rfl, rfl⟩, PySem.F.args_object_init_1 _, _, meets_object_init0 _, rfl, ?_⟩
  exact h _ _ (S.new1 (o := objO) (tk := s.toks) rfl (Nat.le_refl _)) (fresh_of S (none_size (Nat.le_refl _)))
end

theorem sub_tuple_object : isSubtype (.type "tuple") (.type "object") = pure true := by rw [isSubtype_type]; kernel_rfl
theorem sub_object_tuple : isSubtype (.type "object") (.type "tuple") = pure false := by rw [isSubtype_type]; kernel_rfl
theorem tuple_eq_declines_object (l a : Addr) (items : Array Value) :
    Meets (Builtin.«tuple.__eq__» ⟨[.ref l, .ref a], []⟩) (fun _ R s => s.heap.get? l = some { cls := .type "tuple", data := .seq items } ∧ s.heap.get? a = some objO ∧ R (.ok (.ret .notImplemented)) s) :=
  .of_wp fun prog w A R s h => by obtain ⟨hp, g, d, tk, os⟩ := s; obtain ⟨hl, ha, h⟩ := h; have f1 := sub_object_tuple; have hT : Shared.TypeIs ⟨hp, g, d, tk, os⟩ (.ref a) "object" := ⟨objO, ha, rfl⟩; wp_walk using wpAny_loadPart' hl, wpAny_loadPart' ha, wpAny_typeOf hT; exact ⟨_, rfl, h⟩
section
variable {M : Model} {A : Around} {E : Value → Shared → Prop} {s : Shared}
theorem isSame_obj_tup {x y : Addr} {xs : List Value} {R : Bool → Shared → Prop} (hxy : x ≠ y) (hx : s.heap.get? x = some objO) (hy : s.heap.get? y = some (tupO xs)) (h : R false s) : wpAny M A (isSame (.ref x) (.ref y)) R E s := by
  show wpAny M A (if (x == y) = true then pure true else _) R E s
  rw [if_neg (by simpa using hxy)]
  exact wpAny_bind (wpAny_load hx (wpAny_bind (wpAny_load hy (wpAny_pure h))))
theorem isSame_tup_obj {x y : Addr} {xs : List Value} {R : Bool → Shared → Prop} (hxy : x ≠ y) (hx : s.heap.get? x = some (tupO xs)) (hy : s.heap.get? y = some objO) (h : R false s) : wpAny M A (isSame (.ref x) (.ref y)) R E s := by
  show wpAny M A (if (x == y) = true then pure true else _) R E s
  rw [if_neg (by simpa using hxy)]
  exact wpAny_bind (wpAny_load hx (wpAny_bind (wpAny_load hy (wpAny_pure h))))
end
theorem object_eq_declines_tuple (l a : Addr) (xs : List Value) (hne : a ≠ l) :
    Meets (Builtin.«object.__eq__» ⟨[.ref a, .ref l], []⟩) (fun _ R s => s.heap.get? l = some (tupO xs) ∧ s.heap.get? a = some objO ∧ R (.ok (.ret .notImplemented)) s) :=
  .of_wp fun prog w A R s h => by
    obtain ⟨hl, ha, h⟩ := h
    unfold Builtin.«object.__eq__»
    refine wpAny_bind (wpAny_of_eq (show slotArgs "__eq__" 1 ⟨[Value.ref a, Value.ref l], []⟩ = pure (Value.ref a, [Value.ref l]) from by kernel_rfl) ?_)
    show wpAny _ A.in1 (isSame (.ref a) (.ref l) >>= _) _ _ s
    refine wpAny_bind (isSame_obj_tup hne ha hl ?_)
    exact wpAny_pure ⟨_, rfl, h⟩

section
variable {M : Model} {A : Around} {E : Value → Shared → Prop} {s : Shared}
theorem rc_eq_decline_sub {a b : Value} {Ta Tb ida idb : String} {k : Bool} {Q : Value → Shared → Prop} (ha : s.TypeIs a Ta) (hb : s.TypeIs b Tb)
    (hne : (Value.type Ta != Value.type Tb) = true) (hsub : isSubtype (.type Tb) (.type Ta) = pure true) (h1 : Slot Ta (cmpInfo .Eq).2.1 ida) (h2 : Slot Tb (cmpInfo .Eq).2.2 idb)
    (hc1 : ∀ Q' : Value → Shared → Prop, Q' .notImplemented s → wpAny M A (call (.builtin ida) [a, b]) Q' E s)
    (hc2 : ∀ Q' : Value → Shared → Prop, Q' .notImplemented s → wpAny M A (call (.builtin idb) [b, a]) Q' E s)
    (hk : ∀ Q' : Bool → Shared → Prop, Q' k s → wpAny M A (isSame a b) Q' E s)
    (hr : [a, b].any Value.onHeap = false ∨ A.units < cLine) (h : Q (.bool k) s) : wpAny M A (richCompare .Eq a b) Q E s := by
  rcases hi : cmpInfo CmpOp.Eq with ⟨sym, f, r⟩
  rw [hi] at h1 h2
  simp only [richCompare, hi, ha.oneThing_none]
  try with_reducible refine wpAny_holding ?_
  refine wpAny_bind (wpAny_cRoomFor_or hr ?_)
  refine wpAny_bind (wpAny_typeOf ha (wpAny_bind (wpAny_typeOf hb ?_)))
  simp only [hne, if_true]
  refine wpAny_bind (wpAny_of_eq hsub ?_)
  simp only [if_true, Bool.not_true, Bool.false_eq_true, if_false]
  refine wpAny_bind (m := tryCompare b _ a) (wpAny_tryCompare_declines hb h2 (hc2 _ ⟨rfl, ?_⟩))
  refine wpAny_bind (m := tryCompare a _ b) (wpAny_tryCompare_declines ha h1 (hc1 _ ⟨rfl, ?_⟩))
  exact wpAny_bind (wpAny_rule (wpAny_bind (hk _ (wpAny_pure h))))
end
section
variable {prog : Program} {w : World} {A : Around} {E : Value → Shared → Prop} {h₀ : Heap} {L : Addr} {s₀ s : Shared} {m : NMap} {G : Ctx} {fl : Bool}
theorem obj_ne_tup (S : St h₀ L s₀ m G s) {a b : Addr} {xs : List Value} (ha : (a, objO) ∈ G.1) (hb : (b, tupO xs) ∈ G.1) : a ≠ b := by
  rintro rfl
  have := S.fn ha hb
  have := congrArg Obj.cls this
  simp at this
theorem null_eq {z : Addr} {u : Value} {d : List Int} {Q : Value → Shared → Prop} (S : St h₀ L s₀ m G s) (hu : A.units < cLine) (hz : (z, objO) ∈ G.1) (ht : TV fl G u d) (h : Q (.bool false) s) : wpAny (model prog w) A (compareOp .Eq (.ref z) u) Q E s := by
  obtain ⟨b, xs, rfl, hb, _⟩ := ht
  have hzb := obj_ne_tup S hz hb
  have gz := S.get hz
  have gb := S.get hb
  have tz : s.TypeIs (.ref z) "object" := ⟨_, gz, rfl⟩
  have tb : s.TypeIs (.ref b) "tuple" := ⟨_, gb, rfl⟩
  refine rc_eq_decline_sub (k := false) tz tb (by decide) sub_tuple_object PySem.F.slot_object_eq PySem.F.slot_tuple_eq_refl (fun Q' q => ?_) (fun Q' q => ?_) (fun Q' q => isSame_obj_tup hzb gz gb q) (.inr hu) h
  · exact call_meets PySem.F.slot_object_eq tz PySem.F.entry_object_eq (PySem.F.args_object_eq_2 _ _) (object_eq_declines_tuple b z xs hzb) ⟨gb, gz, q⟩
  · exact call_meets PySem.F.slot_tuple_eq_refl tb PySem.F.entry_tuple_eq (PySem.F.args_tuple_eq_2 _ _) (tuple_eq_declines_object b z xs.toArray) ⟨gb, gz, q⟩
theorem is_null_tup {z : Addr} {u : Value} {d : List Int} {Q : Value → Shared → Prop} (S : St h₀ L s₀ m G s) (hz : (z, objO) ∈ G.1) (ht : TV fl G u d) (h : Q (.bool false) s) : wpAny (model prog w) A (compareOp .Is u (.ref z)) Q E s := by
  obtain ⟨b, xs, rfl, hb, _⟩ := ht
  have hzb := obj_ne_tup S hz hb
  show wpAny _ A (isSame (.ref b) (.ref z) >>= _) Q E s
  exact wpAny_bind (isSame_tup_obj (Ne.symm hzb) (S.get hb) (S.get hz) (wpAny_pure h))
end
end

-- P2
section

theorem l_irr (a : List Int) : ¬ a < a := List.lt_irrefl a
theorem l_tr {a b c : List Int} (h : a < b) (k : b < c) : a < c := List.lt_trans h k
theorem l_as {a b : List Int} (h : a < b) : ¬ b < a := fun k => l_irr _ (l_tr h k)
theorem l_eq {a b : List Int} (h : ¬ a < b) (k : ¬ b < a) : a = b := List.le_antisymm (List.not_lt.mp k) (List.not_lt.mp h)
theorem l_lt_of {a b c : List Int} (h : a < b) (k : ¬ c < b) : a < c := by
  by_cases e : b < c
  · exact l_tr h e
  · rw [← l_eq e k]; exact h
theorem sld_swap : ∀ (es as : List (List Int)), sld as es = ((sld es as).2, (sld es as).1) := by
  intro es as
  induction es, as using sld.induct with
  | case1 as => cases as <;> simp [sld]
  | case2 e es => simp [sld]
  | case3 e es a as h ih =>
    rw [sld, if_neg (l_as h), if_pos h, sld, if_pos h, ih]
  | case4 e es a as h k ih =>
    rw [sld, if_pos k, sld, if_neg h, if_pos k, ih]
  | case5 e es a as h k ih =>
    rw [sld, if_neg k, if_neg h, sld, if_neg h, if_neg k, ih]

theorem drop_run {e : List Int} {es : List (List Int)} (h : (e :: es).Pairwise fun a b => ¬ b < a) : (∀ x ∈ es.dropWhile (fun y => decide (y = e)), e < x) ∧ (∀ x ∈ es, x = e ∨ x ∈ es.dropWhile (fun y => decide (y = e))) := by
  induction es with
  | nil => exact ⟨fun x hx => by simp at hx, fun x hx => by simp at hx⟩
  | cons y r ih =>
    have h' : (e :: r).Pairwise fun a b => ¬ b < a := h.sublist (by simp)
    obtain ⟨i1, i2⟩ := ih h'
    by_cases hy : y = e
    · rw [List.dropWhile_cons, if_pos (decide_eq_true hy)]
      refine ⟨i1, fun x hx => ?_⟩
      rcases List.mem_cons.mp hx with rfl | hx
      · exact .inl hy
      · exact i2 x hx
    · rw [List.dropWhile_cons, if_neg (by simpa using hy)]
      refine ⟨fun x hx => ?_, fun x hx => .inr hx⟩
      have hey : e < y := by
        by_cases q : e < y
        · exact q
        · exact absurd (l_eq q ((List.pairwise_cons.mp h).1 y (.head _))).symm hy
      rcases List.mem_cons.mp hx with rfl | hx
      · exact hey
      · exact l_lt_of hey ((List.pairwise_cons.mp (List.pairwise_cons.mp h).2).1 x hx)
theorem drop_rises {e : List Int} {es : List (List Int)} (h : (e :: es).Pairwise fun a b => ¬ b < a) : (es.dropWhile (fun y => decide (y = e))).Pairwise fun a b => ¬ b < a :=
  (List.pairwise_cons.mp h).2.sublist (List.dropWhile_sublist _)
theorem mem_dropWhile {p : List Int → Bool} {es : List (List Int)} {x : List Int} (h : x ∈ es.dropWhile p) : x ∈ es := (List.dropWhile_sublist p).subset h
theorem filter_run {e : List Int} {es : List (List Int)} {p : List Int → Bool} (hp : p e = false) : es.filter p = (es.dropWhile (fun y => decide (y = e))).filter p := by
  induction es with
  | nil => rfl
  | cons y r ih =>
    by_cases hy : y = e
    · rw [List.dropWhile_cons, if_pos (decide_eq_true hy), List.filter_cons_of_neg (by rw [hy, hp]; decide), ih]
    · rw [List.dropWhile_cons, if_neg (by simpa using hy)]

theorem sld_form (T : List Int) : ∀ (es as : List (List Int)), Rises es → Rises as → (∀ a ∈ as, ¬ T < a) → (as ≠ [] → T ∈ as) → (as = [] → ∀ e ∈ es, T < e) →
    ∃ A, (sld es as).1 = A ++ es.filter (fun e => decide (T < e)) ∧ A.Pairwise (· < ·) ∧ ∀ x, x ∈ A ↔ x ∈ es ∧ x < T ∧ x ∉ as := by
  intro es as
  induction es, as using sld.induct with
  | case1 as =>
    intro _ _ _ _ _
    exact ⟨[], by simp [sld], .nil, by simp⟩
  | case2 e es =>
    intro _ _ _ _ h
    refine ⟨[], ?_, .nil, fun x => ⟨fun hx => by simp at hx, fun hx => absurd (h rfl x hx.1) (l_as hx.2.1)⟩⟩
    rw [sld, List.filter_eq_self.mpr fun x hx => decide_eq_true (h rfl x hx)]; rfl
  | case3 e es a as h ih =>
    intro re ra hT hm _
    obtain ⟨d1, d2⟩ := drop_run re
    obtain ⟨A, i1, i2, i3⟩ := ih (drop_rises re) ra hT hm (fun q => by cases q)
    have heT : e < T := l_lt_of h (hT a (.head _))
    have hea : e ∉ a :: as := fun q => by
      rcases List.mem_cons.mp q with rfl | q
      · exact l_irr _ h
      · exact (List.pairwise_cons.mp ra).1 _ q h
    refine ⟨e :: A, ?_, List.pairwise_cons.mpr ⟨fun x hx => d1 x ((i3 x).mp hx).1, i2⟩, fun x => ?_⟩
    · rw [sld, if_pos h]
      show e :: (sld _ _).1 = _
      rw [i1, List.filter_cons_of_neg (by simpa using l_as heT), filter_run (e := e) (es := es) (decide_eq_false (l_as heT))]
      rfl
    · constructor
      · intro hx
        rcases List.mem_cons.mp hx with rfl | hx
        · exact ⟨.head _, heT, hea⟩
        · obtain ⟨j1, j2⟩ := (i3 x).mp hx
          exact ⟨.tail _ (mem_dropWhile j1), j2⟩
      · rintro ⟨j1, j2⟩
        rcases List.mem_cons.mp j1 with rfl | j1
        · exact .head _
        · rcases d2 x j1 with rfl | j1
          · exact .head _
          · exact .tail _ ((i3 x).mpr ⟨j1, j2⟩)
  | case4 e es a as h k ih =>
    intro re ra hT hm _
    obtain ⟨d1, d2⟩ := drop_run ra
    have low : ∀ x ∈ e :: es, a < x := fun x hx => by
      rcases List.mem_cons.mp hx with rfl | hx
      · exact k
      · exact l_lt_of k ((List.pairwise_cons.mp re).1 x hx)
    have hTa := hm (by simp)
    have hm' : as.dropWhile (fun y => decide (y = a)) ≠ [] → T ∈ as.dropWhile (fun y => decide (y = a)) := fun hn => by
      have q : T ∈ a :: as := hTa
      have : ∀ y ∈ as, y = T ∨ True := fun _ _ => .inr trivial
      rcases List.mem_cons.mp q with rfl | q
      · obtain ⟨y, hy⟩ := List.exists_mem_of_ne_nil _ hn
        exact absurd (d1 y hy) (hT y (.tail _ (mem_dropWhile hy)))
      · rcases d2 T q with rfl | q
        · obtain ⟨y, hy⟩ := List.exists_mem_of_ne_nil _ hn
          exact absurd (d1 y hy) (hT y (.tail _ (mem_dropWhile hy)))
        · exact q
    have hz : as.dropWhile (fun y => decide (y = a)) = [] → ∀ x ∈ e :: es, T < x := fun hn x hx => by
      have : T = a := by
        rcases List.mem_cons.mp hTa with q | q
        · exact q
        · rcases d2 T q with q | q
          · exact q
          · rw [hn] at q; simp at q
      rw [this]; exact low x hx
    obtain ⟨A, i1, i2, i3⟩ := ih re (drop_rises ra) (fun x hx => hT x (.tail _ (mem_dropWhile hx))) hm' hz
    refine ⟨A, ?_, i2, fun x => ?_⟩
    · rw [sld, if_neg h, if_pos k]; exact i1
    · rw [i3 x]
      constructor
      · rintro ⟨j1, j2, j3⟩
        refine ⟨j1, j2, fun q => ?_⟩
        rcases List.mem_cons.mp q with rfl | q
        · exact l_irr _ (low _ j1)
        · rcases d2 x q with rfl | q
          · exact l_irr _ (low _ j1)
          · exact j3 q
      · rintro ⟨j1, j2, j3⟩
        exact ⟨j1, j2, fun q => j3 (.tail _ (mem_dropWhile q))⟩
  | case5 e es a as h k ih =>
    intro re ra hT hm _
    obtain rfl := l_eq h k
    obtain ⟨d1, d2⟩ := drop_run ra
    obtain ⟨c1, c2⟩ := drop_run re
    have hTa := hm (by simp)
    have hm' : as.dropWhile (fun y => decide (y = e)) ≠ [] → T ∈ as.dropWhile (fun y => decide (y = e)) := fun hn => by
      rcases List.mem_cons.mp hTa with rfl | q
      · obtain ⟨y, hy⟩ := List.exists_mem_of_ne_nil _ hn
        exact absurd (d1 y hy) (hT y (.tail _ (mem_dropWhile hy)))
      · rcases d2 T q with rfl | q
        · obtain ⟨y, hy⟩ := List.exists_mem_of_ne_nil _ hn
          exact absurd (d1 y hy) (hT y (.tail _ (mem_dropWhile hy)))
        · exact q
    have hz : as.dropWhile (fun y => decide (y = e)) = [] → ∀ x ∈ es.dropWhile (fun y => decide (y = e)), T < x := fun hn x hx => by
      have : T = e := by
        rcases List.mem_cons.mp hTa with q | q
        · exact q
        · rcases d2 T q with q | q
          · exact q
          · rw [hn] at q; simp at q
      rw [this]; exact c1 x hx
    obtain ⟨A, i1, i2, i3⟩ := ih (drop_rises re) (drop_rises ra) (fun x hx => hT x (.tail _ (mem_dropWhile hx))) hm' hz
    have hTe : ¬ T < e := hT e (.head _)
    refine ⟨A, ?_, i2, fun x => ?_⟩
    · rw [sld, if_neg h, if_neg k, i1, List.filter_cons_of_neg (by simpa using hTe), filter_run (e := e) (es := es) (decide_eq_false hTe)]
    · rw [i3 x]
      constructor
      · rintro ⟨j1, j2, j3⟩
        refine ⟨.tail _ (mem_dropWhile j1), j2, fun q => ?_⟩
        have hex := c1 x j1
        rcases List.mem_cons.mp q with rfl | q
        · exact l_irr _ hex
        · rcases d2 x q with rfl | q
          · exact l_irr _ hex
          · exact j3 q
      · rintro ⟨j1, j2, j3⟩
        have hne : x ≠ e := fun q => j3 (by rw [q]; exact .head _)
        refine ⟨?_, j2, fun q => j3 (.tail _ (mem_dropWhile q))⟩
        rcases List.mem_cons.mp j1 with q | q
        · exact absurd q hne
        · exact (c2 x q).resolve_left hne

theorem maxD_spec : ∀ (ds : List (List Int)) (b : List Int), maxD b ds ∈ b :: ds ∧ ∀ x ∈ b :: ds, ¬ maxD b ds < x
  | [], b => ⟨.head _, fun x hx => by rcases List.mem_cons.mp hx with rfl | hx; exact l_irr _; simp at hx⟩
  | d :: r, b => by
    obtain ⟨h1, h2⟩ := maxD_spec r (if b < d then d else b)
    show maxD (if b < d then d else b) r ∈ _ ∧ _
    refine ⟨?_, fun x hx => ?_⟩
    · rcases List.mem_cons.mp h1 with q | q
      · rw [q]; by_cases c : b < d
        · rw [if_pos c]; exact .tail _ (.head _)
        · rw [if_neg c]; exact .head _
      · exact .tail _ (.tail _ q)
    · show ¬ maxD (if b < d then d else b) r < x
      have h0 := h2 _ (.head _)
      rcases List.mem_cons.mp hx with rfl | hx
      · by_cases c : x < d
        · rw [if_pos c] at h0 ⊢; exact fun q => h0 (l_lt_of q (l_as c))
        · rw [if_neg c] at h0 ⊢; exact h0
      · rcases List.mem_cons.mp hx with rfl | hx
        · by_cases c : b < x
          · rw [if_pos c] at h0 ⊢; exact h0
          · rw [if_neg c] at h0 ⊢; exact fun q => h0 (l_lt_of q c)
        · exact h2 x (.tail _ hx)

theorem mem_onceD {ps qs : List (List Int)} (h3 : [] ∉ ps) {x : List Int} : x ∈ onceD ps qs ↔ x ∈ ps ∧ x < maxD [-1, 0, 0] qs ∧ x ∉ qs := by
  unfold onceD lowD
  rw [List.mem_map]
  constructor
  · rintro ⟨i, hi, rfl⟩
    obtain ⟨h1, h2⟩ := List.mem_filter.mp hi
    have hlt := List.mem_range.mp h1
    simp only [Bool.and_eq_true, decide_eq_true_eq, Bool.not_eq_true', decide_eq_false_iff_not] at h2
    refine ⟨?_, h2.2.1, h2.2.2⟩
    simp [hlt]
  · rintro ⟨h1, h2, h4⟩
    have hlt := List.idxOf_lt_length_iff.mpr h1
    have e : ps.getD (ps.idxOf x) [] = x := by simp [hlt]
    refine ⟨ps.idxOf x, List.mem_filter.mpr ⟨List.mem_range.mpr hlt, ?_⟩, e⟩
    simp only [e]
    simp [h2, h4]
theorem nodup_onceD (ps qs : List (List Int)) : (onceD ps qs).Nodup := by
  unfold onceD
  rw [List.Nodup, List.pairwise_map]
  refine List.Pairwise.imp_of_mem ?_ (List.nodup_range.sublist List.filter_sublist)
  intro i j hi hj hne e
  obtain ⟨_, h2⟩ := List.mem_filter.mp hi
  obtain ⟨_, k2⟩ := List.mem_filter.mp hj
  unfold lowD at h2 k2
  simp only [Bool.and_eq_true, decide_eq_true_eq] at h2 k2
  exact hne (by rw [← h2.1, ← k2.1, e])

theorem rises_eq {es fs : List (List Int)} (h : es.Perm fs) (a : Rises es) (b : Rises fs) : es = fs := List.Perm.eq_of_pairwise (fun _ _ _ _ h k => l_eq k h) a b h

theorem sld_alone {ps qs SP SQ es fs : List (List Int)} (h3 : [] ∉ ps) (hp : SP.Perm ps) (rp : Rises SP) (hq : SQ.Perm qs) (rq : Rises SQ) (low : ∀ p ∈ ps, [-1, 0, 0] < p) (lowq : ∀ p ∈ qs, [-1, 0, 0] < p)
    (he : es.Perm (onceD ps qs)) (re : Rises es) (hf : fs.Perm (highD ps qs)) (rf : Rises fs) : (sld SP SQ).1 = es ++ fs := by
  obtain ⟨m1, m2⟩ := maxD_spec qs [-1, 0, 0]
  have c1 : SQ ≠ [] → maxD [-1, 0, 0] qs ∈ SQ := fun hn => by
    rcases List.mem_cons.mp m1 with q | q
    · obtain ⟨y, hy⟩ := List.exists_mem_of_ne_nil _ hn
      have := m2 y (.tail _ (hq.mem_iff.mp hy))
      rw [q] at this
      exact absurd (lowq y (hq.mem_iff.mp hy)) this
    · exact hq.mem_iff.mpr q
  have c2 : SQ = [] → ∀ e ∈ SP, maxD [-1, 0, 0] qs < e := fun hn e hm => by
    rw [hn] at hq
    have e : qs = [] := List.nil_perm.mp hq
    subst e
    exact low _ (hp.mem_iff.mp hm)
  obtain ⟨A, a1, a2, a3⟩ := sld_form (maxD [-1, 0, 0] qs) SP SQ rp rq (fun a ha => m2 a (.tail _ (hq.mem_iff.mp ha))) c1 c2
  have eA : A = es := by
    refine rises_eq ?_ (a2.imp fun h => l_as h) re
    refine List.Perm.trans ?_ he.symm
    refine (List.perm_ext_iff_of_nodup (a2.imp fun {a b} h => fun (e : a = b) => l_irr b (by rw [e] at h; exact h)) (nodup_onceD ps qs)).mpr fun x => ?_
    rw [a3 x, mem_onceD h3, hp.mem_iff, hq.mem_iff]
  have eF : SP.filter (fun e => decide (maxD [-1, 0, 0] qs < e)) = fs := by
    refine rises_eq ?_ (rp.sublist List.filter_sublist) rf
    exact (hp.filter _).trans hf.symm
  rw [a1, eA, eF]

theorem dropWhile_map_eq {f : List Int → List Int} {S : List Int → Prop} (hf : ∀ x y, S x → S y → (f x < f y ↔ x < y)) {e : List Int} (he : S e) : ∀ {es : List (List Int)}, (∀ x ∈ es, S x) →
    (es.map f).dropWhile (fun y => decide (y = f e)) = (es.dropWhile fun y => decide (y = e)).map f
  | [], _ => rfl
  | y :: r, h => by
    have hy := h y (.head _)
    rw [List.map_cons, List.dropWhile_cons, List.dropWhile_cons]
    by_cases q : y = e
    · rw [if_pos (decide_eq_true (by rw [q])), if_pos (decide_eq_true q)]
      exact dropWhile_map_eq hf he fun x hx => h x (.tail _ hx)
    · have : f y ≠ f e := fun z => q (l_eq (fun c => l_irr _ (z ▸ (hf y e hy he).mpr c)) (fun c => l_irr _ (z ▸ (hf e y he hy).mpr c)))
      rw [if_neg (by simpa using this), if_neg (by simpa using q), List.map_cons]
theorem sld_map {f : List Int → List Int} {S : List Int → Prop} (hf : ∀ x y, S x → S y → (f x < f y ↔ x < y)) : ∀ (es as : List (List Int)), (∀ x ∈ es, S x) → (∀ x ∈ as, S x) → sld (es.map f) (as.map f) = ((sld es as).1.map f, (sld es as).2.map f) := by
  intro es as
  induction es, as using sld.induct with
  | case1 as => intro _ _; simp [sld]
  | case2 e es => intro _ _; simp [sld]
  | case3 e es a as h ih =>
    intro he ha
    have q := ih (fun x hx => he x (.tail _ (mem_dropWhile hx))) ha
    rw [List.map_cons] at q
    rw [List.map_cons, List.map_cons, sld, if_pos ((hf e a (he e (.head _)) (ha a (.head _))).mpr h), dropWhile_map_eq hf (he e (.head _)) (fun x hx => he x (.tail _ hx)), sld, if_pos h, q]
    rfl
  | case4 e es a as h k ih =>
    intro he ha
    have q := ih he (fun x hx => ha x (.tail _ (mem_dropWhile hx)))
    rw [List.map_cons] at q
    rw [List.map_cons, List.map_cons, sld, if_neg (fun c => h ((hf e a (he e (.head _)) (ha a (.head _))).mp c)), if_pos ((hf a e (ha a (.head _)) (he e (.head _))).mpr k), dropWhile_map_eq hf (ha a (.head _)) (fun x hx => ha x (.tail _ hx)), sld, if_neg h, if_pos k, q]
    rfl
  | case5 e es a as h k ih =>
    intro he ha
    have q := ih (fun x hx => he x (.tail _ (mem_dropWhile hx))) (fun x hx => ha x (.tail _ (mem_dropWhile hx)))
    rw [List.map_cons, List.map_cons, sld, if_neg (fun c => h ((hf e a (he e (.head _)) (ha a (.head _))).mp c)), if_neg (fun c => k ((hf a e (ha a (.head _)) (he e (.head _))).mp c)), dropWhile_map_eq hf (he e (.head _)) (fun x hx => he x (.tail _ hx)), dropWhile_map_eq hf (ha a (.head _)) (fun x hx => ha x (.tail _ hx)), sld, if_neg h, if_neg k, q]
end

-- P3
section

theorem perm_lift {α β : Type} {f : α → β} : ∀ {l : List β} {ps : List α}, l.Perm (ps.map f) → ∃ X : List α, X.Perm ps ∧ l = X.map f := by
  classical
  intro l
  induction l with
  | nil =>
    intro ps h
    have := h.length_eq
    cases ps with
    | nil => exact ⟨[], .nil, rfl⟩
    | cons => simp at this
  | cons b l ih =>
    intro ps h
    obtain ⟨p, hp, rfl⟩ := List.mem_map.mp (h.mem_iff.mp (.head _))
    have q := List.perm_cons_erase hp
    have q2 : (f p :: l).Perm (f p :: (ps.erase p).map f) := h.trans (q.map f)
    obtain ⟨X, h1, rfl⟩ := ih q2.cons_inv
    exact ⟨p :: X, (h1.cons p).trans q.symm, rfl⟩
theorem list_lift {α β : Type} {f : α → β} {P : α → Prop} : ∀ {l : List β}, (∀ x ∈ l, ∃ p, P p ∧ x = f p) → ∃ X : List α, l = X.map f ∧ ∀ p ∈ X, P p
  | [], _ => ⟨[], rfl, fun _ h => by simp at h⟩
  | b :: l, h => by
    obtain ⟨p, hp, rfl⟩ := h b (.head _)
    obtain ⟨X, rfl, hX⟩ := list_lift (l := l) fun x hx => h x (.tail _ hx)
    exact ⟨p :: X, rfl, fun q hq => by
      rcases List.mem_cons.mp hq with rfl | hq
      · exact hp
      · exact hX q hq⟩

def toH (d : List Int) : List Int := hsvD (d.getD 0 0).toNat (d.getD 1 0).toNat (d.getD 2 0).toNat
theorem toH_pt (p : P3) : toH (ptP p) = hsvP p := by simp [toH, ptP, pt]
theorem low_pt (p : P3) : ([-1, 0, 0] : List Int) < ptP p := by
  have : (-1 : Int) < (p.1 : Int) := by lia
  simp only [ptP, pt, List.cons_lt_cons_iff]; exact .inl this
theorem pt_ne (p : P3) : ptP p ≠ [] := by simp [ptP, pt]
theorem toH_lt (x y : List Int) (hx : ∃ p, Pk p ∧ x = ptP p) (hy : ∃ p, Pk p ∧ y = ptP p) : toH x < toH y ↔ x < y := by
  obtain ⟨p, hp, rfl⟩ := hx
  obtain ⟨q, hq, rfl⟩ := hy
  rw [toH_pt, toH_pt]
  exact hsvD_lt (t := p.1) (k := p.2.1) (j := p.2.2) (t' := q.1) (k' := q.2.1) (j' := q.2.2) hp hq

theorem rises_lift {X : List P3} (hX : ∀ p ∈ X, Pk p) (h : Rises (X.map hsvP)) : Rises (X.map ptP) := by
  rw [Rises, List.pairwise_map] at h ⊢
  refine h.imp_of_mem fun {a b} ha hb hab q => hab ?_
  have := (toH_lt (ptP b) (ptP a) ⟨b, hX b hb, rfl⟩ ⟨a, hX a ha, rfl⟩).mpr q
  rwa [toH_pt, toH_pt] at this

theorem due_of {ps qs : List P3} (kp : ∀ p ∈ ps, Pk p) (kq : ∀ p ∈ qs, Pk p) {e1 e2 es fs : List (List Int)} (h1 : e1.Perm (ps.map hsvP)) (r1 : Rises e1) (h2 : e2.Perm (qs.map hsvP)) (r2 : Rises e2)
    (he : es.Perm (onceD (ps.map ptP) (qs.map ptP))) (re : Rises es) (hf : fs.Perm (highD (ps.map ptP) (qs.map ptP))) (rf : Rises fs) :
    ∃ X : List P3, es ++ fs = X.map ptP ∧ (∀ p ∈ X, Pk p) ∧ (sld e1 e2).1 = X.map hsvP ∧ X.length ≤ ps.length + ps.length := by
  obtain ⟨X1, x1, rfl⟩ := perm_lift h1
  obtain ⟨X2, x2, rfl⟩ := perm_lift h2
  have k1 : ∀ p ∈ X1, Pk p := fun p hp => kp p (x1.mem_iff.mp hp)
  have k2 : ∀ p ∈ X2, Pk p := fun p hp => kq p (x2.mem_iff.mp hp)
  have n3 : [] ∉ ps.map ptP := fun h => by
    obtain ⟨p, _, e⟩ := List.mem_map.mp h
    exact pt_ne p e
  have low : ∀ l : List P3, ∀ x ∈ l.map ptP, ([-1, 0, 0] : List Int) < x := fun l x hx => by
    obtain ⟨p, _, rfl⟩ := List.mem_map.mp hx
    exact low_pt p
  have main := sld_alone (SP := X1.map ptP) (SQ := X2.map ptP) n3 (x1.map ptP) (rises_lift k1 r1) (x2.map ptP) (rises_lift k2 r2) (low ps) (low qs) he re hf rf
  have sub : ∀ x ∈ es ++ fs, ∃ p, Pk p ∧ x = ptP p := fun x hx => by
    have : x ∈ ps.map ptP := by
      rcases List.mem_append.mp hx with hx | hx
      · exact ((mem_onceD n3).mp (he.mem_iff.mp hx)).1
      · have := hf.mem_iff.mp hx
        unfold highD at this
        exact (List.mem_filter.mp this).1
    obtain ⟨p, hp, rfl⟩ := List.mem_map.mp this
    exact ⟨p, kp p hp, rfl⟩
  obtain ⟨X, hX, kX⟩ := list_lift (f := ptP) (P := Pk) sub
  refine ⟨X, hX, kX, ?_, ?_⟩
  · have em : ∀ l : List P3, l.map hsvP = (l.map ptP).map toH := fun l => by
      rw [List.map_map]; exact List.map_congr_left fun p _ => (toH_pt p).symm
    rw [em, em, sld_map (S := fun x => ∃ p, Pk p ∧ x = ptP p) toH_lt, main, hX, em]
    · intro x hx; obtain ⟨p, hp, rfl⟩ := List.mem_map.mp hx; exact ⟨p, k1 p hp, rfl⟩
    · intro x hx; obtain ⟨p, hp, rfl⟩ := List.mem_map.mp hx; exact ⟨p, k2 p hp, rfl⟩
  · have e1 : X.length = es.length + fs.length := by rw [← List.length_append, hX, List.length_map]
    have e2 : es.length ≤ ps.length := by
      rw [he.length_eq]; unfold onceD; rw [List.length_map]
      refine Nat.le_trans (List.length_filter_le _ _) ?_
      simp
    have e3 : fs.length ≤ ps.length := by
      rw [hf.length_eq]; unfold highD
      refine Nat.le_trans (List.length_filter_le _ _) ?_
      simp
    lia
end

-- T4
section

section
variable {prog : Program} {w : World} {A : Around} {E : Value → Shared → Prop} {h₀ : Heap} {L : Addr} {s₀ s : Shared} {m : NMap} {G : Ctx} {fl : Bool}
theorem eqA_lv (S : St h₀ L s₀ m G s) (nb : NoneBooked s.heap) (hu : A.units + 1 < cLine) {a b : Addr} {ds : List (List Int)} (ha : LV fl G a ds) (hb : LV fl G b ds) : EqAt A s (.ref a) (.ref b) true := by
  by_cases hab : a = b
  · subst hab; exact EqAt.same _
  · refine EqAt.of_refs hab ?_
    obtain ⟨us, n, h1, h2⟩ := ha
    obtain ⟨vs, k, h3, h4⟩ := hb
    have r := eq_lv (A := A) S nb hu h1 h2 h3 h4
    rw [decide_eq_true rfl] at r
    exact r
theorem eq_pair {p q a b c d : Addr} {ds es : List (List Int)} {Q : Value → Shared → Prop} (S : St h₀ L s₀ m G s) (nb : NoneBooked s.heap) (hu : A.units + 2 < cLine) (hp : (p, tupO [.ref a, .ref b]) ∈ G.1) (hq : (q, tupO [.ref c, .ref d]) ∈ G.1)
    (ha : LV fl G a ds) (hb : LV fl G b es) (hc : LV fl G c ds) (hd : LV fl G d es) (h : Q (.bool true) s) : wpAny (model prog w) A (compareOp .Eq (.ref p) (.ref q)) Q E s := by
  have r := RcAt.tuples (A := A) (e := fun _ => true) (S.isTuple hp) (S.isTuple hq) (by lia) (fun j h1 h2 => by
    have hu' : A.in1.units + 1 < cLine := by show A.units + 1 + 1 < cLine; lia
    have h1' : j < 2 := h1
    match j, h1' with
    | 0, _ => exact eqA_lv (A := A.in1) S nb hu' ha hc
    | 1, _ => exact eqA_lv (A := A.in1) S nb hu' hb hd)
  exact r _ _ _ _ (by simpa [show (List.range 2) = [0, 1] from rfl] using h)
end

set_option maxHeartbeats 2000000 in
theorem sp_hsvh {w : World} {d : Nat} {G : Ctx} {f1 f2 p1 p2 : Addr} {us1 us2 vs1 vs2 : List Value} {a1 a2 b1 b2 : Nat} {ps qs : List P3}
    (hf1 : (f1, lstO us1 a1) ∈ G.1) (hu1 : All2 (TV true G) us1 (ps.map colP)) (hf2 : (f2, lstO us2 a2) ∈ G.1) (hu2 : All2 (TV true G) us2 (qs.map colP))
    (hp1 : (p1, lstO vs1 b1) ∈ G.1) (hv1 : All2 (TV false G) vs1 (ps.map ptP)) (hp2 : (p2, lstO vs2 b2) ∈ G.1) (hv2 : All2 (TV false G) vs2 (qs.map ptP))
    (kp : ∀ p ∈ ps, Pk p) (kq : ∀ p ∈ qs, Pk p) (zp : ps.length ≤ 40) (zq : qs.length ≤ 40) :
    SpX w 238 [.ref f1, .ref f2, .ref p1, .ref p2] (d + 3) G (fun G' v => Gr G G' ∧ v = .bool true) := by
  obtain ⟨Ld, Tk⟩ := G
  intro A env h₀ L s₀ m sB Q E am S hQ
  refine' enterXL (binds := [(Str.ofString "first", .ref f1), (Str.ofString "second", .ref f2), (Str.ofString "points", .ref p1), (Str.ofString "others", .ref p2)]) am S ?ho ?hc ?hb ?hl ?c1 ?c2 ?c3 ?c4 _ ?_ hQ
  case ho => k_is
  case hc => k_is
  case hb => exact BindsTo.of_eq rfl
  case hl => exact rfl
  case c1 => decide
  case c2 => exact rfl
  case c3 => exact rfl
  case c4 => exact rfl
  intro g' L' cells s₁ env' A' m' am' hcl S₁ hlt
  clear S hQ am
  cases hcl
  simp only [List.nil_append] at S₁
  dsimp only at hf1 hf2 hp1 hp2
  try with_reducible refine wpGen fun Qg1 ig1 => ?_
  repeat' (walk_at "go")
  have l3 : ∀ xs : List P3, ∀ d ∈ xs.map hsvP, d.length = 3 := fun xs d hd => by
    obtain ⟨p, _, rfl⟩ := List.mem_map.mp hd
    rfl
  have l3' : ∀ xs : List P3, ∀ d ∈ xs.map ptP, d.length = 3 := fun xs d hd => by
    obtain ⟨p, _, rfl⟩ := List.mem_map.mp hd
    rfl
  refine ⟨⟨_, _, _, S₁⟩, ?_⟩
  refine sp_lhsv (d := d) hf1 hu1 kp (by lia) _ _ _ _ _ _ _ _ _ (am'.less' (by lia)) S₁ fun G2 v s2 S2 h => ?_
  obtain ⟨g2, l2, rfl, hfr2, mv2, mn2, hm2, hd2⟩ := h
  clear S₁
  obtain ⟨Ld2, Tk2⟩ := G2
  dsimp only at hm2
  try with_reducible refine wpGen fun Qg2 ig2 => ?_
  repeat' (walk_at "go")
  refine c_sorted S2 am'.st' hm2 hd2 (l3 ps) (by rw [List.length_map]; lia) fun D3 c3 us3 es1 s3 S3 hf3 hes1 hperm1 hrise1 => ?_
  have g23 : Gr ((Ld2, Tk2) : Ctx) ((D3, lstO us3 c3) :: Ld2, Tk2) := by walk_at "gg"
  have gI3 := g2.trans g23
  clear S2
  try with_reducible refine wpGen fun Qg3 ig3 => ?_
  repeat' (walk_at "go")
  refine ⟨⟨_, _, _, S3⟩, ?_⟩
  refine sp_lhsv (d := d) (by exact gI3.a _ hf2) (hu2.mono fun v p h => h.mono gI3) kq (by lia) _ _ _ _ _ _ _ _ _ (am'.less' (by lia)) S3 fun G4 v s4 S4 h => ?_
  obtain ⟨g4, l4, rfl, hfr4, mv4, mn4, hm4, hd4⟩ := h
  have q3 := g4.a _ (.head _)
  have w3 := hes1.mono fun v p h => (h.mono g23).mono g4
  have gI4 := gI3.trans g4
  clear S3
  obtain ⟨Ld4, Tk4⟩ := G4
  dsimp only at hm4 q3
  try with_reducible refine wpGen fun Qg4 ig4 => ?_
  repeat' (walk_at "go")
  refine c_sorted S4 am'.st' hm4 hd4 (l3 qs) (by rw [List.length_map]; lia) fun D5 c5 us5 es2 s5 S5 hf5 hes2 hperm2 hrise2 => ?_
  have g45 : Gr ((Ld4, Tk4) : Ctx) ((D5, lstO us5 c5) :: Ld4, Tk4) := by walk_at "gg"
  have gI5 := gI4.trans g45
  clear S4
  try with_reducible refine wpGen fun Qg5 ig5 => ?_
  repeat' (walk_at "go")
  refine ⟨⟨_, _, _, S5⟩, ?_⟩
  refine sp_sld (d := d) (by exact .tail _ q3) (w3.mono fun v p h => h.mono g45) (.head _) (hes2.mono fun v p h => h.mono g45) (by rw [hperm1.length_eq, List.length_map]; lia) (by rw [hperm2.length_eq, List.length_map]; lia)
    _ _ _ _ _ _ _ _ _ (am'.less' (by lia)) S5 fun h6 G6 v s6 tn6 _ S6 h => ?_
  obtain ⟨g6, a6, M, U, rfl, hta, lvM, lvU⟩ := h
  have am2 := am'.turned tn6
  have gI6 := gI5.trans g6
  clear S5
  obtain ⟨Ld6, Tk6⟩ := G6
  dsimp only at hta
  try with_reducible refine wpGen fun Qg6 ig6 => ?_
  repeat' (walk_at "go")
  rename_i s7 S7
  refine ⟨⟨_, _, _, S7⟩, ?_⟩
  refine sp_alone (d := d) (by exact gI6.a _ hp1) (hv1.mono fun v p h => h.mono gI6) (by exact gI6.a _ hp2) (hv2.mono fun v p h => h.mono gI6) (by rw [List.length_map]; lia) (by rw [List.length_map]; lia) (l3' ps)
    _ _ _ _ _ _ _ _ _ (am2.less' (by lia)) S7 fun G8 v s8 S8 h => ?_
  obtain ⟨g8, l8, es, fs, rfl, hfr8, ⟨mv8, mn8, hm8, hd8⟩, pe, re, pf, rf⟩ := h
  obtain ⟨X, hX, kX, mX, zX⟩ := due_of kp kq hperm1 hrise1 hperm2 hrise2 pe re pf rf
  rw [hX] at hd8
  have gI8 := gI6.trans g8
  clear S7
  obtain ⟨Ld8, Tk8⟩ := G8
  dsimp only at hm8
  try with_reducible refine wpGen fun Qg7 ig7 => ?_
  repeat' (walk_at "go")
  refine ⟨⟨_, _, _, S8⟩, ?_⟩
  refine sp_due (d := d) (by exact hm8) hd8 kX (by lia) _ _ _ _ _ _ _ _ _ (am2.less' (by lia)) S8 fun G9 v s9 S9 h => ?_
  obtain ⟨g9, l9, rfl, hfr9, lv9⟩ := h
  have gI9 := gI8.trans g9
  clear S8
  obtain ⟨Ld9, Tk9⟩ := G9
  try with_reducible refine wpGen fun Qg8 ig8 => ?_
  repeat' (walk_at "go")
  refine ⟨⟨_, _, _, S9⟩, ?_⟩
  refine sp_alone (d := d) (by exact gI9.a _ hp2) (hv2.mono fun v p h => h.mono gI9) (by exact gI9.a _ hp1) (hv1.mono fun v p h => h.mono gI9) (by rw [List.length_map]; lia) (by rw [List.length_map]; lia) (l3' qs)
    _ _ _ _ _ _ _ _ _ (am2.less' (by lia)) S9 fun G10 v s10 S10 h => ?_
  obtain ⟨g10, l10, es', fs', rfl, hfr10, ⟨mv10, mn10, hm10, hd10⟩, pe', re', pf', rf'⟩ := h
  obtain ⟨Y, hY, kY, mY, zY⟩ := due_of kq kp hperm2 hrise2 hperm1 hrise1 pe' re' pf' rf'
  rw [hY] at hd10
  have gI10 := gI9.trans g10
  clear S9
  obtain ⟨Ld10, Tk10⟩ := G10
  dsimp only at hm10
  try with_reducible refine wpGen fun Qg9 ig9 => ?_
  repeat' (walk_at "go")
  refine ⟨⟨_, _, _, S10⟩, ?_⟩
  refine sp_due (d := d) (by exact hm10) hd10 kY (by lia) _ _ _ _ _ _ _ _ _ (am2.less' (by lia)) S10 fun G11 v s11 S11 h => ?_
  obtain ⟨g11, l11, rfl, hfr11, lv11⟩ := h
  have gI11 := gI10.trans g11
  have gL : Gr ((Ld6, Tk6) : Ctx) G11 := ((g8.trans g9).trans g10).trans g11
  have eY : (sld es1 es2).2 = Y.map hsvP := by rw [sld_swap es1 es2] at mY; exact mY
  have lM := lvM.mono gL
  have lU := lvU.mono gL
  rw [mX] at lM
  rw [eY] at lU
  have lX := lv9.mono (g10.trans g11)
  have hta' := gL.a _ hta
  clear S10
  obtain ⟨Ld11, Tk11⟩ := G11
  dsimp only at hta'
  try with_reducible refine wpGen fun Qg10 ig10 => ?_
  repeat' (walk_at "go")
  rename_i T12 s12 S12 hf12
  refine eq_pair S12 (am2.nbAt S12) (Nat.lt_of_le_of_lt (Nat.add_le_add_left (by decide) _) am2.units) (by exact .tail _ hta') (.head _) (lM.mono (by walk_at "gg")) (lU.mono (by walk_at "gg")) (lX.mono (by walk_at "gg")) (lv11.mono (by walk_at "gg")) ?_
  try with_reducible refine wpGen fun Qg11 ig11 => ?_
  repeat' (walk_at "go")
  exact ⟨h6, _, _, tn6, S12, gI11.trans (by walk_at "gg"), rfl⟩
end

-- U2
section
open PySem PySem.W PyProof.Rows PySem.SeqAt PySem.Calls Builtin Builtin.ObjectAttr

theorem entry_tup_ga : entryFor table "tuple.__getattribute__" = some Builtin.«object.__getattribute__» :=
  entryFor_alias (id' := "object.__getattribute__") (by rw [fastTable_eq_tree]; kernel_rfl) (by first | rfl | decide +kernel) (by decide +kernel) (by rw [fastTable_eq_tree]; kernel_rfl)

section
variable {prog : Program} {w : World} {A : Around} {E : Value → Shared → Prop} {s : Shared} {K : Frag}
theorem ty_attr {n : String} {name : Str} {v : Value} {expr : Bool} {Q : Value → Shared → Prop} (X : K.In s.heap) (ho : opaqueClassAbove (.type n) = pure none) (ht : typeOf (.type n) = pure (.type "type"))
    (e : findCls K (.type n) (.type "type") name = some (.val v)) (hga : findIn K (.type "type") "__getattribute__" = some (some (.builtin "type.__getattribute__"))) (hi : subIn K (.type "type") (.type "type") = some true) (hh : handedIn v = true)
    (h : ∀ t, s.toks ≤ t → Q v { s with toks := t }) : wpAny (model prog w) A (getAttr (.type n) name expr) Q E s := by
  refine cls_open (hook := none) X (Looks.of_pure ho) (Looks.of_pure ht) hga (Looks.of_pure rfl) hi e ?_
  refine wpAny_pure ?_
  show wpAny _ A (handedOut v) Q E _
  rw [handedOut_of hh]
  exact wpAny_pure (h _ (Nat.le_succ _))

theorem tup_bind {x C f : Addr} {ox : Obj} {od : Option Obj} {name : Str} {a : Value} {expr : Bool} {Q : Value → Shared → Prop} (X : K.In s.heap) (I : InstAt s.heap x ox C od) (hga : findIn K (.ref C) "__getattribute__" = some (some (.builtin "tuple.__getattribute__")))
    (hm : mroIn K C (.type "tuple") = some true) (hf : findObj K C od name = some (.bind (.ref f) a)) (hk : findIn K (.ref C) "__getattr__" = some none)
    (h : wpAny (model prog w) A.in1 (call (.ref f) [a, .ref x, .ref C]) (fun v s' => handedOut v = pure v ∧ Q v s') (fun _ _ => False) { s with toks := s.toks + 1 }) :
    wpAny (model prog w) A (getAttr (.ref x) name expr) Q E s := by
  obtain ⟨hh, g, d, t, os⟩ := s
  have L0 := I.type (M := model prog w)
  have L1 := looks_findIn (M := model prog w) X hga
  have L2 := looks_find (M := model prog w) X I hf
  have L3 := looks_findIn (M := model prog w) X hk
  have L4 : Looks (model prog w) hh (isInstance (.ref x) (.type "tuple")) true := L0.andThen (looks_mroIn X hm)
  unfold getAttr getAttrBy
  refine wpAny_bind (wpAny_mkText (wpAny_holding (wpAny_bind (L0.at (wpAny_bind (L1.at ?_))))))
  dsimp only
  rw [show (onTheHeap (.ref C) && Value.builtin "tuple.__getattribute__" == Value.builtin "object.__getattribute__") = false from by rw [show (Value.builtin "tuple.__getattribute__" == Value.builtin "object.__getattribute__") = false from by decide +kernel, Bool.and_false], if_neg (by decide)]
  unfold getAttrByItsOwn
  have L5 : Looks (model prog w) hh (hookBefore (.ref C)) none := L3
  refine wpAny_bind (L5.at (wpAny_bind (wpAny_attempt (wpAny_holding ?_))))
  unfold callGetattribute
  rw [show (expr && onTheHeap (Value.builtin "tuple.__getattribute__")) = false from Bool.and_false _, if_neg (by decide)]
  unfold boundAndCalled
  rw [PySem.F.slot_tuple_getattribute.bind]
  refine wpAny_bind (wpAny_pure ?_)
  show wpAny _ _ (call (.builtin "tuple.__getattribute__") [.ref x, .str name t]) _ _ _
  refine wpAny_call ?_
  refine codeAny_call_builtin PySem.F.slot_tuple_getattribute.plain entry_tup_ga ?_
  refine @check_slot (model prog w) _ _ ⟨hh, g, d, t + 1, os⟩ "tuple.__getattribute__" "tuple" "__getattribute__" (.ref x) [.str name t] [] _ (by decide +kernel) (by decide +kernel) L4 (PySem.F.args_tuple_getattribute_2 _ _) ?_
  unfold Builtin.«object.__getattribute__»
  refine wpAny_bind (wpAny_of_eq (show slotArgs "__getattribute__" 1 ⟨[Value.ref x, Value.str name t], []⟩ = pure (Value.ref x, [Value.str name t]) from by kernel_rfl) ?_)
  show wpAny _ _ (attrName (.str name t) >>= _) _ _ _
  refine wpAny_bind (wpAny_of_eq (show attrName (.str name t) = pure name from rfl) ?_)
  refine wpAny_bind (L0.at (wpAny_bind (L2.at ?_)))
  show wpAny _ _ (bindTo (.ref f) a (.ref x) (.ref C)) _ _ _
  unfold bindTo
  refine wpAny_bind (wpAny_holding (wpAny_mono h (fun v s' z => ?_) fun _ _ z => z.elim))
  refine wpAny_pure ?_
  show wpAny _ A (handedOut v) Q E s'
  rw [z.1]
  exact wpAny_pure z.2
end
end

-- U3
section

abbrev mmO (xs : List Value) (dx : Addr) : Obj := { cls := .ref 170, dict := some dx, data := .seq xs.toArray }
theorem k_sub : True := trivial
section
variable (P : Params)
theorem c_mro170 : mroIn (hd.heap_1 P) 170 (.type "tuple") = some true := by kernel_rfl
theorem c_mro170s : mroIn (hd.heap_1 P) 170 (.ref 170) = some true := by kernel_rfl
theorem c_typ170 : typeIn (hd.heap_1 P) (.ref 170) = some (.type "type") := by kernel_rfl
theorem c_ga170 : findIn (hd.heap_1 P) (.ref 170) (Str.ofString "__getattribute__") = some (some (.builtin "tuple.__getattribute__")) := by kernel_rfl
theorem c_gt170 : findIn (hd.heap_1 P) (.ref 170) (Str.ofString "__getattr__") = some none := by kernel_rfl
theorem c_actual : findObj (hd.heap_1 P) 170 (some emptyDict) (Str.ofString "actual") = some (.bind (.ref 64) (.ref 159)) := by kernel_rfl
theorem c_expected : findObj (hd.heap_1 P) 170 (some emptyDict) (Str.ofString "expected") = some (.bind (.ref 64) (.ref 162)) := by kernel_rfl
theorem c_value : findObj (hd.heap_1 P) 170 (some emptyDict) (Str.ofString "value") = some (.bind (.ref 64) (.ref 165)) := by kernel_rfl
theorem c_gaT : findIn (hd.heap_1 P) (.type "type") (Str.ofString "__getattribute__") = some (some (.builtin "type.__getattribute__")) := by kernel_rfl
theorem c_subT : subIn (hd.heap_1 P) (.type "type") (.type "type") = some true := by kernel_rfl
theorem c_tup_gi : findCls (hd.heap_1 P) (.type "tuple") (.type "type") (Str.ofString "__getitem__") = some (.val (.builtin "tuple.__getitem__")) := by kernel_rfl
theorem c_tup_new : findCls (hd.heap_1 P) (.type "tuple") (.type "type") (Str.ofString "__new__") = some (.val (.builtin "tuple.__new__")) := by kernel_rfl
theorem c_ga81 : findIn (hd.heap_1 P) (.ref 81) (Str.ofString "__getattribute__") = some (some (.builtin "object.__getattribute__")) := by kernel_rfl
end
theorem c_opq : opaqueClassAbove (.type "tuple") = pure none := by kernel_rfl
theorem c_typT : typeOf (.type "tuple") = pure (.type "type") := by kernel_rfl
theorem c_special : specialOf (.type "tuple") (Str.ofString "__getattribute__") = pure (some (.builtin "type.__getattribute__")) := by
  unfold specialOf
  rw [c_typT]
  show typeLookup (.type "type") _ = _
  rw [typeLookup_type, builtinLookup_eq_fast]; kernel_rfl
section
variable {prog : Program} {w : World} {A : Around} {E : Value → Shared → Prop} {s : Shared} {K : Frag} {env : Env}
theorem gm_type {name : Str} {v : Value} {pl : Sem Bool} {R : Value × List Value → Shared → Prop} {P : Params} (X : (hd.heap_1 P).In s.heap) (e : findCls (hd.heap_1 P) (.type "tuple") (.type "type") name = some (.val v)) (hh : handedIn v = true)
    (h : ∀ t, s.toks ≤ t → R (v, []) { s with toks := t }) : wpAny (model prog w) A (getMethod (.type "tuple") name pl) R E s := by
  unfold getMethod
  refine wpAny_bind (wpAny_of_eq c_special ?_)
  dsimp only
  rw [if_pos (show (Manifest.canonical "type.__getattribute__" != "object.__getattribute__") = true from by decide +kernel)]
  refine wpAny_bind (m := getAttr (.type "tuple") name false) ?_
  refine' ty_attr (n := "tuple") (name := name) (v := v) (K := hd.heap_1 P) ?X ?ho ?ht ?e ?hga ?hi ?hh ?_
  case X => exact X
  case ho => exact c_opq
  case ht => exact c_typT
  case e => exact e
  case hga => exact c_gaT P
  case hi => exact c_subT P
  case hh => exact hh
  intro t ht
  exact wpAny_pure (h t ht)
theorem methT {o : Expr} {apos pos : Pos} {e : Expr} {rest : List Expr} {name : Str} {Q : Value → Shared → Prop} {id : String}
    (pl : Sem Bool) (h : wpAny (model prog w) A (eval o env) (fun ov s₁ => wpAny (model prog w) A (getMethod ov name pl) (fun r s₂ => r = (.builtin id, []) ∧
      wpAny (model prog w) A (spliced (backTo pos (starEach (e :: rest) env))) (fun vs s₃ => wpAny (model prog w) A (call (.builtin id) vs) Q E s₃) E s₂) E s₁) E s)
    (he : eval (.Call (.Attribute o name apos) (e :: rest) [] pos) env = (do
      let ov ← eval o env
      standAt apos.atName
      let (f, first) ← holding [ov] (getMethod ov name pl)
      callWith pos f first (backTo pos (starEach (e :: rest) env)) (backToKw pos (keywordEach [] env))) := by rfl)
    (he' : starEach (e :: rest) env = (false, eval e env) :: starEach rest env := by rfl)
    (hplain : (backTo pos (starEach rest env)).any (·.1) = false := by rfl) :
    wpAny (model prog w) A (eval (.Call (.Attribute o name apos) (e :: rest) [] pos) env) Q E s := by
  refine methodCall_KW (pl := pl) (wpAny_mono h (fun ov s₁ h => wpAny_mono h (fun r s₂ h => ?_) fun _ _ x => x) fun _ _ x => x) he
  obtain ⟨rfl, h2⟩ := h
  show wpAny _ _ (callWith pos (.builtin id) [] (backTo pos (starEach (e :: rest) env)) []) _ _ _
  rw [he'] at h2 ⊢
  exact callWith_builtin (by show (false || (backTo pos (starEach rest env)).any (·.1)) = false; rw [hplain]; rfl) (evalArgs_plain h2)

theorem tup_item {x : Addr} {ox : Obj} {xs : List Value} {n i : Nat} {C : Addr} {od : Option Obj} {t : Tok} {v : Value} {Q : Value → Shared → Prop} (X : K.In s.heap) (I : InstAt s.heap x ox C od) (hm : mroIn K C (.type "tuple") = some true) (hd : ox.data = .seq xs.toArray n)
    (hi : i < 1000) (hv : xs[i]? = some v) (h : Q v s) : wpAny (model prog w) A (call (.builtin "tuple.__getitem__") [.ref x, .int (i : Int) t]) Q E s := by
  obtain ⟨hh, g, d, tk, os⟩ := s
  have L0 := I.type (M := model prog w)
  have L4 : Looks (model prog w) hh (isInstance (.ref x) (.type "tuple")) true := L0.andThen (looks_mroIn X hm)
  have hx := I.at_
  refine wpAny_call (codeAny_call_builtin PySem.F.slot_tuple_getitem.plain PySem.F.entry_tuple_getitem ?_)
  refine @check_slot (model prog w) _ _ ⟨hh, g, d, tk, os⟩ "tuple.__getitem__" "tuple" "__getitem__" (.ref x) [.int (i : Int) t] [] _ (by decide +kernel) (by decide +kernel) L4 (PySem.F.args_tuple_getitem_2 _ _) ?_
  unfold Builtin.«tuple.__getitem__»
  refine wpAny_bind (wpAny_of_eq (show slotArgs "__getitem__" 1 ⟨[Value.ref x, Value.int (i : Int) t], []⟩ = pure (Value.ref x, [Value.int (i : Int) t]) from by kernel_rfl) ?_)
  dsimp only
  have Lx : Looks (model prog w) hh (Builtin.Tuple.tupleItemsOf (.ref x)) xs.toArray := by
    unfold Builtin.Tuple.tupleItemsOf seqItems?
    refine Looks.andThen (a := some xs.toArray) ((Looks.ld (part := none) hx).andThen ?_) .now
    rw [hd]; exact .now
  refine wpAny_bind (Lx.at ?_)
  have ty : Looks (model prog w) hh (typeOf (.int (i : Int) t)) (.type "int") := Looks.of_pure rfl
  refine wpAny_bind (ty.at ?_)
  rw [if_neg (by decide)]
  repeat lk
  rw [if_neg (by simp; lia)]
  have hs : ((seqIndex? (i : Int) xs.toArray.size).bind fun y => xs.toArray[y]?) = some v := by
    obtain ⟨hlt, e⟩ := List.getElem?_eq_some_iff.mp hv
    have e1 : seqIndex? (i : Int) xs.toArray.size = some i := by
      unfold seqIndex?
      have hn : ¬ ((i : Int) < 0) := by lia
      simp [hn, hlt]
    rw [e1]; simpa using hv
  rw [hs]
  exact wpAny_pure h
end
end

-- U4
section

theorem k_issubclass (P : Params) : nsIn (hd.heap_1 P) mainGlobals (Str.ofString "issubclass") = some none := by kernel_rfl
theorem b_issub : bootBuiltins (Str.ofString "issubclass") = some (.builtin "issubclass") := by kernel_rfl
theorem k_type (P : Params) : nsIn (hd.heap_1 P) mainGlobals (Str.ofString "type") = some none := by kernel_rfl
theorem c_cls170 (P : Params) : ∃ o, (hd.heap_1 P).lookup 170 = some o ∧ ∃ cd, o.data = .cls cd ∧ cd.mro.isEmpty = false := by
  have : ∀ {o : Obj} {cd : ClassData}, (hd.heap_1 P).lookup 170 = some o → o.data = .cls cd → cd.mro.isEmpty = false → ∃ o, (hd.heap_1 P).lookup 170 = some o ∧ ∃ cd, o.data = .cls cd ∧ cd.mro.isEmpty = false := fun h e k => ⟨_, h, _, e, k⟩
  exact this (by k_is) rfl rfl
theorem meets_issub (P : Params) : Meets (Builtin.«issubclass» ⟨[.ref 170, .type "tuple"], []⟩) (fun _ R s => (hd.heap_1 P).In s.heap ∧ R (.ok (.ret (.bool true))) s) := fun prog w A R s hs => issubclass_outer (by
  obtain ⟨X, h⟩ := hs
  obtain ⟨o, ho, cd, hd', _⟩ := c_cls170 P
  obtain ⟨hh, g, d, tk, os⟩ := s
  have L1 : Looks (model prog w) hh (isType (.ref 170)) true := by
    refine (Looks.ld (X _ _ ho)).andThen ?_
    show Looks _ _ (pure _) _
    rw [hd']; exact .now
  have L2 := looks_mroIn (M := model prog w) X (c_mro170 P)
  have L3 : Looks (model prog w) hh (typeOf (.type "tuple")) (.type "type") := Looks.of_pure c_typT
  unfold Builtin.«issubclass.nested»
  repeat lk
  exact h)
section
variable {prog : Program} {w : World} {A : Around} {E : Value → Shared → Prop} {s : Shared} {K : Frag} {env : Env}
theorem is_none_ref {x : Addr} {Q : Value → Shared → Prop} (h : Q (.bool false) s) : wpAny (model prog w) A (compareOp .Is (.ref x) .none) Q E s := by
  show wpAny _ A (isSame (.ref x) .none >>= _) Q E s
  exact wpAny_bind (wpAny_of_eq (rfl : isSame (.ref x) .none = pure false) (wpAny_pure h))
end
theorem in_get (P : Params) {i p : Nat} (hp : (i = 0 ∧ p = 159) ∨ (i = 1 ∧ p = 162) ∨ (i = 2 ∧ p = 165)) : ∃ ox od, (hd.heap_1 P).lookup p = some ox ∧ ox.cls = .ref 81 ∧ notCls ox = true ∧ (∃ dx, ox.dict = some dx ∧ (hd.heap_1 P).lookup dx = some od) ∧ ∃ t, findObj (hd.heap_1 P) 81 (some od) (Str.ofString "index") = some (.value (.int (i : Int) t)) := by
  have : ∀ {ox od : Obj} {dx : Addr} {t : Nat}, (hd.heap_1 P).lookup p = some ox → (hd.heap_1 P).lookup dx = some od → ox.cls = .ref 81 → notCls ox = true → ox.dict = some dx → findObj (hd.heap_1 P) 81 (some od) (Str.ofString "index") = some (.value (.int (i : Int) t)) →
    ∃ ox od, (hd.heap_1 P).lookup p = some ox ∧ ox.cls = .ref 81 ∧ notCls ox = true ∧ (∃ dx, ox.dict = some dx ∧ (hd.heap_1 P).lookup dx = some od) ∧ ∃ t, findObj (hd.heap_1 P) 81 (some od) (Str.ofString "index") = some (.value (.int (i : Int) t)) := fun a b c d e f => ⟨_, _, a, c, d, ⟨_, e, b⟩, _, f⟩
  rcases hp with ⟨rfl, rfl⟩ | ⟨rfl, rfl⟩ | ⟨rfl, rfl⟩
  · refine this (dx := 158) (t := 425) (by k_is) (by k_is) rfl rfl rfl ?_
    kernel_rfl
  · refine this (dx := 161) (t := 435) (by k_is) (by k_is) rfl rfl rfl ?_
    kernel_rfl
  · refine this (dx := 164) (t := 445) (by k_is) (by k_is) rfl rfl rfl ?_
    kernel_rfl

set_option maxHeartbeats 1000000 in
theorem sp_get {w : World} {d : Nat} {G : Ctx} {x dx : Addr} {xs : List Value} (hx : (x, mmO xs dx) ∈ G.1) (hdx : (dx, emptyDict) ∈ G.1) {i p : Nat} (hp : (i = 0 ∧ p = 159) ∨ (i = 1 ∧ p = 162) ∨ (i = 2 ∧ p = 165)) {v : Value} (hv : xs[i]? = some v) :
    Sp w 64 [.ref p, .ref x, .ref 170] (d + 1) G (fun G' r => Gr G G' ∧ r = v) := by
  intro A env h₀ L s₀ m s Q E am S hQ
  refine' enterL (binds := [(Str.ofString "self", .ref p), (Str.ofString "obj", .ref x), (Str.ofString "objtype", .ref 170)]) am S ?ho ?hc ?hb ?hl ?c1 ?c2 ?c3 ?c4 _ ?_ hQ
  case ho => k_is
  case hc => k_is
  case hb =>
    refine' BindsTo.of_defaults (T := 57) (o := { cls := .type "tuple", data := .seq #[.none] }) ?a ?b ?b2 ?c ?e
    case b2 => exact rfl
    case a => exact rfl
    case b => exact S.F.keep _ _ (am.X 57 { cls := .type "tuple", data := .seq #[.none] } (by k_is))
    case c => exact rfl
    case e => exact rfl
  case hl => exact locs rfl
  case c1 => exact rfl
  case c2 => exact rfl
  case c3 => exact rfl
  case c4 => decide
  intro g' L' s₁ env' A' m' am' S₁
  clear S hQ am
  have hi : i < 1000 := by omega
  obtain ⟨oy, oyd, hy, hyc, hyn, ⟨dy, hyd, hdy⟩, ti, hfi⟩ := in_get w.params hp
  have I : ∀ {h : Heap} (_ : ∀ q ∈ G.1, h.get? q.1 = some q.2), InstAt h x (mmO xs dx) 170 (some emptyDict) := fun k => ⟨k _ hx, rfl, rfl, k _ hdx⟩
  repeat' (walk_at "go")
  refine wpAny_Constant_none ?_
  refine is_none_ref ?_
  repeat' (walk_at "go")
  refine' nmB am' S₁ (k_issubclass _) ?hv ?_ ?hn ?hk ?hx ?hd
  case hn => decide
  case hk => exact rfl
  case hx => exact rfl
  case hd => decide
  case hv => exact b_issub
  repeat' (walk_at "go")
  refine kto_own (I fun q hq => S₁.get hq) ?_
  repeat' (walk_at "go")
  refine call_issubclass (meets_issub w.params) ⟨am'.X.keeps S₁.F.keep, ?_⟩
  iterate 5 (walk_at "go")
  refine' methT (id := "tuple.__getitem__") ?pl ?_ ?he ?he2 ?hp
  case he => exact rfl
  case he2 => exact rfl
  case hp => exact rfl
  walk_at "go"
  refine gm_type (P := w.params) (am'.X.keeps S₁.F.keep) (c_tup_gi _) rfl fun t ht => ⟨rfl, ?_⟩
  have S2 := S₁.toks ht
  clear S₁
  repeat' (walk_at "go")
  refine Attribute_name ?_
  repeat' (walk_at "go")
  refine get_value (C := 81) (ox := oy) (od := some oyd) (am'.X.keeps S2.F.keep) ⟨S2.F.keep _ _ (am'.X _ _ hy), hyc, hyn, by rw [hyd]; exact S2.F.keep _ _ (am'.X _ _ hdy)⟩ (c_ga81 _) hfi rfl ?_
  have S3 := S2.toks (Nat.le_succ _)
  clear S2
  repeat' (walk_at "go")
  refine tup_item (am'.X.keeps S3.F.keep) (I fun q hq => S3.get hq) (c_mro170 _) rfl hi hv ?_
  repeat' (walk_at "go")
  exact ⟨_, _, S3, Gr.rfl, rfl⟩
end

-- U5
section

section
variable {K : Frag} {p : Program} {loose : List Str} {A : Around} {env : Env} {h₀ : Heap} {L : Addr} {d : Nat}
theorem Amb.in1 (am : Amb K p loose A env h₀ L (d + 1)) : Amb K p loose A.in1 env h₀ L d :=
  ⟨am.below, am.stat, am.X, am.T, am.fr, am.kind, am.hh, by have := am.dep; show A.depth + d < _; lia, by have := am.uni; show A.units + 1 + 64 * d + 64 < _; lia, am.nb⟩
end

theorem row_at {w : World} {A : Around} {E : Value → Shared → Prop} {env : Env} {h₀ : Heap} {L : Addr} {d : Nat} {s₀ s : Shared} {m : NMap} {G : Ctx} {x dx : Addr} {xs : List Value} {i p : Nat} {v : Value} {name : Str} {expr : Bool} {Q : Value → Shared → Prop}
    (am : Am w A env h₀ L (d + 2)) (S : St h₀ L s₀ m G s) (hx : (x, mmO xs dx) ∈ G.1) (hdx : (dx, emptyDict) ∈ G.1) (hp : (i = 0 ∧ p = 159) ∨ (i = 1 ∧ p = 162) ∨ (i = 2 ∧ p = 165)) (hf : findObj (hd.heap_1 w.params) 170 (some emptyDict) name = some (.bind (.ref 64) (.ref p)))
    (hv : xs[i]? = some v) (hh : handedIn v = true) (h : ∀ G' s', St h₀ L s₀ m G' s' → Gr G G' → Q v s') : wpAny (Md w) A (getAttr (.ref x) name expr) Q E s := by
  refine tup_bind (C := 170) (ox := mmO xs dx) (od := some emptyDict) (am.X.keeps S.F.keep) ⟨S.get hx, rfl, rfl, S.get hdx⟩ (c_ga170 _) (c_mro170 _) hf (c_gt170 _) ?_
  refine sp_get (d := d) hx hdx hp hv _ _ _ _ _ _ _ _ _ (Amb.in1 am) (S.toks (Nat.le_succ _)) fun G' r s' S' hr => ?_
  obtain ⟨g, rfl⟩ := hr
  exact ⟨handedOut_of hh, h G' s' S' g⟩

theorem best_tuple : Builtin.Slots.bestBase [.type "tuple"] = pure (.type "tuple") := by kernel_rfl
theorem made_tuple : Bind.madeBy (.type "tuple") = pure (some "tuple.__new__") := PySem.F.called_tuple.made
theorem c_obj170 (P : Params) : ∃ (cd : ClassData) (sl : Array (Option Value)), (hd.heap_1 P).lookup 170 = some ⟨.type "type", none, .cls cd, sl⟩ ∧ sl[4]? = some (some .none) ∧ cd.mro = [.ref 170, .type "tuple", .type "object"] ∧ cd.bases = [.type "tuple"] ∧ cd.hasDict = false ∧ cd.hasDel = false ∧ cd.abstract = false := by
  have : ∀ {cd : ClassData} {sl : Array (Option Value)}, (hd.heap_1 P).lookup 170 = some ⟨.type "type", none, .cls cd, sl⟩ → sl[4]? = some (some .none) ∧ cd.mro = [.ref 170, .type "tuple", .type "object"] ∧ cd.bases = [.type "tuple"] ∧ cd.hasDict = false ∧ cd.hasDel = false ∧ cd.abstract = false → ∃ (cd : ClassData) (sl : Array (Option Value)), (hd.heap_1 P).lookup 170 = some ⟨.type "type", none, .cls cd, sl⟩ ∧ sl[4]? = some (some .none) ∧ cd.mro = [.ref 170, .type "tuple", .type "object"] ∧ cd.bases = [.type "tuple"] ∧ cd.hasDict = false ∧ cd.hasDel = false ∧ cd.abstract = false := fun h e => ⟨_, _, h, e⟩
  exact this (by k_is) ⟨rfl, rfl, rfl, rfl, rfl, rfl⟩
section
variable {M : Model} {h : Heap} {P : Params}
theorem mm_mro (X : (hd.heap_1 P).In h) : Looks M h (mroOf (.ref 170)) [.ref 170, .type "tuple", .type "object"] := by
  obtain ⟨cd, sl, ho, e4, em, eb, _⟩ := c_obj170 P
  rw [← em]
  exact ((Looks.ld (part := none) (X _ _ ho)).andThen .now).andThen .now
theorem mm_slot (X : (hd.heap_1 P).In h) : Looks M h (slotAt 170 4) (some .none) := by
  obtain ⟨cd, sl, ho, e4, em, eb, _⟩ := c_obj170 P
  refine (Looks.ld (X _ _ ho)).andThen ?_
  show Looks _ _ (pure _) _
  have : (sl[4]?).join = some .none := by rw [e4]; rfl
  rw [← this]
  exact .now
theorem mm_made (X : (hd.heap_1 P).In h) : Looks M h (Bind.madeBy (.ref 170)) none := by
  intro A Q E s k q
  unfold Bind.madeBy
  refine wpAny_bind (mm_mro X A _ E s k ?_)
  rw [List.forIn_cons]
  refine wpAny_bind (wpAny_bind (wpAny_bind (mm_slot X A _ E s k ?_)))
  exact wpAny_pure (wpAny_pure (wpAny_pure q))
theorem mm_base (X : (hd.heap_1 P).In h) : Looks M h (Bind.staticBase (.ref 170)) (.type "tuple") := by
  intro A Q E s k q
  unfold Bind.staticBase
  refine wpAny_bind (mm_mro X A _ E s k ?_)
  rw [List.forIn_cons]
  refine wpAny_bind (wpAny_bind (wpAny_bind (mm_made X A _ E s k ?_)))
  rw [if_neg (by decide)]
  obtain ⟨cd, sl, ho, e4, em, eb, _⟩ := c_obj170 P
  have L2 : Looks M h (classData 170) cd := (Looks.ld (part := none) (X _ _ ho)).andThen .now
  show wpAny M A (classData 170 >>= fun c => Builtin.Slots.bestBase c.bases >>= fun c => pure (ForInStep.yield ((none : Option Value), c))) _ E s
  refine wpAny_bind (L2 A _ E s k ?_)
  rw [eb, best_tuple]
  refine wpAny_bind (wpAny_pure (wpAny_pure ?_))
  show wpAny M A (forIn (m := Sem) [Value.type "tuple", Value.type "object"] ((none : Option Value), Value.type "tuple") _) _ E s
  rw [List.forIn_cons]
  refine wpAny_bind (wpAny_bind (wpAny_of_eq made_tuple ?_))
  exact wpAny_pure (wpAny_pure (wpAny_pure q))

theorem mm_here (X : (hd.heap_1 P).In h) : Looks M h (Bind.madeHere "tuple.__new__" (.ref 170)) () := by
  unfold Bind.madeHere
  refine (mm_base X).andThen ?_
  rw [made_tuple]
  refine Looks.now.andThen ?_
  rw [if_neg (by simp)]
  exact .now
theorem mm_type (X : (hd.heap_1 P).In h) : Looks M h (isType (.ref 170)) true := by
  obtain ⟨cd, sl, ho, e4, em, eb, _⟩ := c_obj170 P
  exact (Looks.ld (X _ _ ho)).andThen .now
theorem mm_init (X : (hd.heap_1 P).In h) : Looks M h (typeLookup (.ref 170) (Str.ofString "__init__")) (some (.builtin "object.__init__")) := looks_findIn X (by kernel_rfl)
end
theorem tn_kind : builtinKind "tuple.__new__" = some .builtinFn := by decide +kernel
theorem tn_split : splitId "tuple.__new__" = some ("tuple", "__new__") := by decide +kernel

section
variable {prog : Program} {w : World} {A : Around} {E : Value → Shared → Prop} {s : Shared} {P : Params}
theorem code_mm_new {t : Addr} {xs : List Value} {Q : Value → Shared → Prop} (X : (hd.heap_1 P).In s.heap) (ht : s.heap.get? t = some (tupO xs)) (hz : xs.length ≤ 100)
    (h : ∀ h' : Heap, (∀ b o, s.heap.get? b = some o → h'.get? b = some o) → Q (.ref (h'.objs.size + 1)) { s with heap := (h'.push emptyDict).push (mmO xs h'.objs.size) }) :
    wpAny (model prog w) A (call (.builtin "tuple.__new__") [.ref 170, .ref t]) Q E s := by
  obtain ⟨hh, g, d, tk, os⟩ := s
  dsimp only at X ht
  have L1 := mm_here (M := model prog w) X
  have L2 := mm_type (M := model prog w) X
  have L3 := looks_mroIn (M := model prog w) X (c_mro170 P)
  have L4 := mm_base (M := model prog w) X
  have L5 := mm_init (M := model prog w) X
  refine wpAny_call (codeAny_call_builtin (by decide +kernel) PySem.F.entry_tuple_new ?_)
  simp only [checkBuiltinCall, tn_kind, tn_split]
  have L6 : Looks (model prog w) hh (Bind.madeBy (.type "tuple")) (some "tuple.__new__") := Looks.of_pure made_tuple
  have hsz : xs.toArray.size ≤ sizeLine := by rw [List.size_toArray, sizeLine_eq]; lia
  have hcol : ∀ (A : Around) (Q : List Value → Shared → Prop) (E : Value → Shared → Prop), (∀ h', (∀ b o', hh.get? b = some o' → h'.get? b = some o') → Q xs { heap := h', gens := g, drawn := d, toks := tk, os := os }) → wpAny (model prog w) A (collect (.ref t)) Q E { heap := hh, gens := g, drawn := d, toks := tk, os := os } :=
    fun A Q E hq => wpAny_collect_seq (items := xs.toArray) (n := 0) (hsz := hsz) t (.inr rfl) ht rfl rfl (fun h' hk => hq h' hk)
  repeat (first | simp only [bne_self_eq_false, Bool.false_eq_true, if_false] | with_reducible refine hcol _ _ _ (fun h' hk => ?_) | lk)
  obtain ⟨cd, sl, ho, e4, em, eb, e5, e6, e7⟩ := c_obj170 P
  rw [if_neg (by lia)]
  unfold newObjAsIs classHasDel
  refine wpAny_bind (wpAny_alloc (wpAny_bind (wpAny_bind (wpAny_load (Heap.get?_push_of_some _ (Heap.get?_push_of_some _ (hk _ _ (X _ _ ho)))) (wpAny_pure ?_)))))
  rw [e6]
  refine wpAny_pure (wpAny_pure ?_)
  show Q _ _
  rw [Heap.size_push]
  exact h h' hk
end

set_option maxHeartbeats 1000000 in
theorem sp_new {w : World} {d : Nat} {G : Ctx} {a b c : Value} :
    Sp w 117 [.ref 170, a, b, c] (d + 1) G (fun G' r => Gr G G' ∧ ∃ x dx, r = .ref x ∧ (∀ p ∈ G.1, p.1 ≠ x) ∧ (x, mmO [a, b, c] dx) ∈ G'.1 ∧ (dx, emptyDict) ∈ G'.1) := by
  obtain ⟨Ld, Tk⟩ := G
  intro A env h₀ L s₀ m s Q E am S hQ
  refine' enterL (binds := [(Str.ofString "_cls", .ref 170), (Str.ofString "actual", a), (Str.ofString "expected", b), (Str.ofString "value", c)]) am S ?ho ?hc ?hb ?hl ?c1 ?c2 ?c3 ?c4 _ ?_ hQ
  case ho => k_is
  case hc => k_is
  case hb => exact BindsTo.of_eq rfl
  case hl => exact locs rfl
  case c1 => exact rfl
  case c2 => exact rfl
  case c3 => exact rfl
  case c4 => decide
  intro g' L' s₁ env' A' m' am' S₁
  clear S hQ am
  iterate 4 (walk_at "go")
  rename_i s2 S2
  refine' methT (id := "tuple.__new__") ?pl ?_ ?he ?he2 ?hp
  case he => exact rfl
  case he2 => exact rfl
  case hp => exact rfl
  walk_at "go"
  refine gm_type (P := w.params) (am'.X.keeps S2.F.keep) (c_tup_new _) rfl fun t ht => ⟨rfl, ?_⟩
  have S3 := S2.toks ht
  clear S2 S₁
  repeat' (walk_at "go")
  rename_i T s4 S4 hfT
  refine code_mm_new (P := w.params) (xs := [a, b, c]) (am'.X.keeps S4.F.keep) (S4.get (.head _)) (by simp) fun h' hk => ?_
  have nn : ∀ a, h'.objs.size ≤ a → s4.heap.get? a = none := fun a ha => by
    cases q : s4.heap.get? a with
    | none => rfl
    | some o => have := Heap.lt_size (hk _ _ q); exact absurd this (Nat.not_lt.mpr ha)
  have S5 := S4.upd [] [(h'.objs.size + 1, mmO [a, b, c] h'.objs.size), (h'.objs.size, emptyDict)] (h' := (h'.push emptyDict).push (mmO [a, b, c] h'.objs.size)) (tk := s4.toks) (fun _ h => by simp at h)
    (fun b o _ e => Heap.get?_push_of_some _ (Heap.get?_push_of_some _ (hk _ _ e))) (fun p hp => by
      rcases List.mem_cons.mp hp with rfl | hp
      · refine ⟨?_, .inr (nn _ (Nat.le_succ _))⟩
        have := Heap.get?_push_size (h'.push emptyDict) (o := mmO [a, b, c] h'.objs.size) rfl
        rwa [Heap.size_push] at this
      · rw [List.mem_singleton.mp hp]
        exact ⟨Heap.get?_push_of_some _ (Heap.get?_push_size _ rfl), .inr (nn _ (Nat.le_refl _))⟩) (Nat.le_refl _)
  repeat' (walk_at "go")
  refine ⟨_, _, S5, ?_, _, _, rfl, ?_, outO_add (.head _), outO_add (.tail _ (.head _))⟩
  · exact Gr.trans (by walk_at "gg") outO_gr0
  · intro p hp e
    have := (S4.N p (.tail _ hp)).1
    rw [e, nn _ (Nat.le_succ _)] at this; cases this

section
variable {P : Params}
theorem c_call170 (P : Params) : specialIn (hd.heap_1 P) (.ref 170) (Str.ofString "__call__") = some (some (.builtin "type.__call__")) := by kernel_rfl
theorem c_inst170 (P : Params) : instIn (hd.heap_1 P) (.ref 170) (.type "type") = some true := by kernel_rfl
theorem c_new170 (P : Params) : findCls (hd.heap_1 P) (.ref 170) (.type "type") (Str.ofString "__new__") = some (.get (.builtin "staticmethod.__get__") (.ref 171) .none (.ref 170)) := by kernel_rfl
theorem c_sm171 (P : Params) : recIn (hd.heap_1 P) 171 "staticmethod" = some [.ref 117] := by kernel_rfl
theorem c_opq170 (P : Params) : nsIn (hd.heap_1 P) cStatics (Str.ofString "thirdparty.any") = some none := by kernel_rfl
end
section
variable {prog : Program} {w : World} {A : Around} {E : Value → Shared → Prop} {s : Shared} {P : Params}
theorem mm_attr {expr : Bool} {Q : Value → Shared → Prop} (X : (hd.heap_1 P).In s.heap) (h : Q (.ref 117) { s with toks := s.toks + 1 }) : wpAny (model prog w) A (getAttr (.ref 170) (Str.ofString "__new__") expr) Q E s := by
  refine' cls_open (hook := none) (mc := .type "type") X ?ho ?ht ?hga ?hb ?hi (c_new170 P) ?_
  case ho => exact looks_opaque X (c_opq170 P)
  case ht => exact looks_typeIn X (c_typ170 P)
  case hga => exact c_gaT P
  case hb => exact Looks.of_pure rfl
  case hi => exact c_subT P
  unfold CFound.run
  refine wpAny_bind (wpAny_holding (wpAny_call ?_))
  refine sm_get (s := { s with toks := s.toks + 1 }) X (c_sm171 P) ?_
  exact wpAny_pure (wpAny_pure h)
end
end

-- U6
section

section
variable {K : Frag} {p : Program} {loose : List Str} {A A' : Around} {env : Env} {h₀ : Heap} {L : Addr} {d : Nat}
theorem Amb.inAny (am : Amb K p loose A env h₀ L (d + 1)) (hf : A'.frames = A.frames) (hh : A'.handled = A.handled) (hd : A'.depth ≤ A.depth + 1) (hu : A'.units ≤ A.units + 1) : Amb K p loose A' env h₀ L d := by
  obtain ⟨A₀, base, outer, B, hA, r⟩ := am.below
  exact ⟨⟨A₀, base, outer, B, hf.trans hA, r⟩, am.stat, am.X, am.T, am.fr, am.kind, hh.trans am.hh, by have := am.dep; lia, by have := am.uni; lia, am.nb⟩
end
theorem c_mro170o (P : Params) : mroIn (hd.heap_1 P) 170 (.type "object") = some true := by kernel_rfl
theorem oi_args4 (a b c d : Value) : argsOk "object.__init__" ⟨[a, b, c, d], []⟩ := by unfold argsOk; kernel_rfl
section
variable {w : World} {A : Around} {E : Value → Shared → Prop} {env : Env} {h₀ : Heap} {L : Addr} {d : Nat} {s₀ s : Shared} {m : NMap} {G : Ctx}
theorem make_mm {a b c : Value} {Q : Value → Shared → Prop} (am : Am w A env h₀ L (d + 3)) (S : St h₀ L s₀ m G s)
    (h : ∀ G' x dx s', St h₀ L s₀ m G' s' → Gr G G' → (∀ p ∈ G.1, p.1 ≠ x) → (x, mmO [a, b, c] dx) ∈ G'.1 → (dx, emptyDict) ∈ G'.1 → Q (.ref x) s') :
    wpAny (Md w) A (call (.ref 170) [a, b, c]) Q E s := by
  have X := am.X.keeps S.F.keep
  obtain ⟨cd, sl, ho, e4, em, eb, e5, e6, e7⟩ := c_obj170 w.params
  have am1 : Am w (A.under (.builtin "type.__call__" ⟨[.ref 170, a, b, c], []⟩)) env h₀ L (d + 2) := Amb.inAny am rfl rfl (Nat.le_of_eq (depth_under_make A 170 [a, b, c])) (Nat.le_of_eq (units_under_make A 170 [a, b, c]))
  have hnew : ∀ (Q' : Value → Shared → Prop), (∀ G' x dx s', St h₀ L s₀ m G' s' → Gr G G' → (∀ p ∈ G.1, p.1 ≠ x) → (x, mmO [a, b, c] dx) ∈ G'.1 → (dx, emptyDict) ∈ G'.1 → Q' (.ref x) s') →
      ∀ E' t, s.toks ≤ t → wpAny (Md w) (A.under (.builtin "type.__call__" ⟨[.ref 170, a, b, c], []⟩)) (call (.ref 117) [.ref 170, a, b, c]) Q' E' { s with toks := t } := fun Q' hq E' t ht =>
    sp_new (d := d + 1) _ _ _ _ _ _ _ _ _ am1 (S.toks ht) fun G' r s' S' hr => by
      obtain ⟨g, x, dx, rfl, hf, hx, hdx⟩ := hr
      exact hq G' x dx s' S' g hf hx hdx
  obtain ⟨hh, g, dr, tk, os⟩ := s
  have call0 := looks_specialIn (M := Md w) X (c_call170 w.params)
  have typ := looks_instIn (M := Md w) X (c_inst170 w.params)
  have mro := mm_mro (M := Md w) X
  have made := mm_made (M := Md w) X
  have hC : hh.get? 170 = some _ := X _ _ ho
  refine wpAny_call (codeAny_of_tree ?_)
  show wpAny _ _ (callAny (.ref 170) _) _ _ _
  refine nd_load hC ?_
  show wpAny _ _ (callAny.viaDunder (.ref 170) _) _ _ _
  unfold callAny.viaDunder
  refine wpAny_bind (call0.at ?_)
  dsimp only
  rw [tc_bind]
  refine wpAny_bind (wpAny_pure (wpAny_bind (wpAny_pure ?_)))
  refine wpAny_pure (a := Fin.again (.call (.builtin "type.__call__") ⟨[.ref 170, a, b, c], []⟩)) (And.intro rfl ?_)
  refine codeAny_call_builtin_at (Code.quiet_builtin _ (by decide +kernel)) entry_typeCall (check_slot tc_kind tc_split typ (tc_args _ _ _) ?_)
  unfold Builtin.«type.__call__»
  refine wpAny_ite ?_
  rw [if_neg (by decide)]
  refine wpAny_bind (mro.at ?_)
  rw [if_neg (by decide)]
  refine wpAny_bind (made.at ?_)
  dsimp only
  refine wpAny_bind (mm_attr (P := w.params) X ?_)
  refine wpAny_bind (wpAny_holding (hnew _ (fun G' x dx s' S' g hf hx hdx => ?_) _ _ (Nat.le_succ _)))
  have X' := am.X.keeps S'.F.keep
  have gx := S'.get hx
  have fin := h G' x dx s' S' g hf hx hdx
  clear S' hnew call0 typ mro made hC X
  obtain ⟨hh', g', dr', tk', os'⟩ := s'
  have ty : Looks (Md w) hh' (typeOf (.ref x)) (.ref 170) := (Looks.ld gx).andThen .now
  have L1 : Looks (Md w) hh' (isInstance (.ref x) (.ref 170)) true := ty.andThen (looks_mroIn X' (c_mro170s _))
  have L2 : Looks (Md w) hh' (isInstance (.ref x) (.type "object")) true := ty.andThen (looks_mroIn X' (c_mro170o _))
  have L3 := mm_init (M := Md w) X'
  have L4 := mm_made (M := Md w) X'
  refine wpAny_bind (L1.at ?_)
  rw [if_neg (by decide)]
  refine wpAny_bind (wpAny_holding ?_)
  unfold callSpecial? specialOf
  refine wpAny_bind (wpAny_bind (ty.at (L3.at ?_)))
  dsimp only
  rw [oi_bind]
  refine wpAny_holding (wpAny_bind (wpAny_pure (wpAny_bind (wpAny_call ?_))))
  refine codeAny_call_builtin oi_plain entry_oi ?_
  refine @check_slot (Md w) _ _ ⟨hh', g', dr', tk', os'⟩ "object.__init__" "object" "__init__" (.ref x) [a, b, c] [] _ oi_kind oi_split L2 (oi_args4 _ _ _ _) ?_
  unfold Builtin.«object.__init__»
  repeat lk
  exact fin
end
end

-- V1
section

def OV (z : Addr) (G : Ctx) (v : Value) (o : Option (List Int)) : Prop := match o with
  | none => v = .ref z
  | some d => TV true G v d
theorem OV.mono {z : Addr} {G G' : Ctx} (g : Gr G G') {v : Value} {o : Option (List Int)} (h : OV z G v o) : OV z G' v o := by
  cases o with
  | none => exact h
  | some d => exact TV.mono g h
theorem OV.keepB {h₀ : Heap} {L : Addr} {s₀ s : Shared} {m : NMap} {G G' : Ctx} {l : List Addr} (S : St h₀ L s₀ m G s) (hl : NT G l) (g : GrB l G G') {z : Addr} {v : Value} {o : Option (List Int)} (h : OV z G v o) : OV z G' v o := by
  cases o with
  | none => exact h
  | some d => exact TV.keepB S hl g h

abbrev OL := List (Option (List Int))
def wipe1 (e : List Int) (o : Option (List Int)) : Option (List Int) := if o = some e then none else o
def wipeN (e : List Int) (l : OL) (n : Nat) : OL := (l.take n).map (wipe1 e) ++ l.drop n
theorem wipeN_length (e : List Int) (l : OL) (n : Nat) : (wipeN e l n).length = l.length := by
  unfold wipeN; rw [List.length_append, List.length_map, ← List.length_append, List.take_append_drop]
theorem wipeN_zero (e : List Int) (l : OL) : wipeN e l 0 = l := by simp [wipeN]
theorem wipeN_all (e : List Int) (l : OL) : wipeN e l l.length = l.map (wipe1 e) := by simp [wipeN]
theorem wipeN_none {e : List Int} {l : OL} {i : Nat} (h : ∀ o ∈ l.take i, o = none) : wipeN e l i = l := by
  have : (l.take i).map (wipe1 e) = l.take i := by
    refine (List.map_congr_left fun o ho => ?_).trans (List.map_id _)
    rw [h o ho]; rfl
  unfold wipeN; rw [this, List.take_append_drop]
theorem wipeN_at {e : List Int} {l : OL} {q : Nat} (hq : q < l.length) : (wipeN e l q)[q]? = l[q]? := by
  unfold wipeN
  have h1 : ((l.take q).map (wipe1 e)).length = q := by rw [List.length_map, List.length_take]; lia
  rw [List.getElem?_append_right (by lia), h1, Nat.sub_self, List.getElem?_drop]; simp
theorem wipeN_succ {e : List Int} {l : OL} {q : Nat} (hq : q < l.length) : wipeN e l (q + 1) = (wipeN e l q).set q (wipe1 e l[q]) := by
  unfold wipeN
  have h1 : ((l.take q).map (wipe1 e)).length = q := by rw [List.length_map, List.length_take]; lia
  rw [List.set_append_right _ _ (by lia), h1, Nat.sub_self, List.take_succ_eq_append_getElem hq, List.map_append, List.drop_eq_getElem_cons hq, List.set_cons_zero, List.append_assoc]
  rfl
theorem wipeN_skip {e : List Int} {l : OL} {q : Nat} (hq : q < l.length) (h : l[q] ≠ some e) : wipeN e l (q + 1) = wipeN e l q := by
  rw [wipeN_succ hq]
  apply List.ext_getElem?
  intro j
  by_cases hj : q = j
  · subst hj
    rw [List.getElem?_set_self (by rw [wipeN_length]; exact hq), wipeN_at hq, List.getElem?_eq_getElem hq]
    unfold wipe1; rw [if_neg h]
  · rw [List.getElem?_set_ne hj]
theorem count_take {l : OL} {q : Nat} (hq : q < l.length) (o : Option (List Int)) : (l.take (q + 1)).count o = (l.take q).count o + if l[q] = o then 1 else 0 := by
  rw [List.take_succ_eq_append_getElem hq, List.count_append, List.count_singleton]
  by_cases h : l[q] = o <;> simp [h]
theorem All2.set {α β : Type} {R : α → β → Prop} : ∀ {xs : List α} {ys : List β} (i : Nat) {x : α} {y : β}, All2 R xs ys → R x y → All2 R (xs.set i x) (ys.set i y)
  | _, _, _, _, _, .nil, _ => .nil
  | _, _, 0, _, _, .cons _ r, h => .cons h r
  | _, _, i + 1, _, _, .cons a r, h => .cons a (r.set i h)

section
variable {prog : Program} {w : World} {A : Around} {E : Value → Shared → Prop} {h₀ : Heap} {L : Addr} {s₀ s : Shared} {m : NMap} {G : Ctx}
theorem ov_eq {z : Addr} {v u : Value} {o : Option (List Int)} {e : List Int} {Q : Value → Shared → Prop} (S : St h₀ L s₀ m G s) (nb : NoneBooked s.heap) (hu : A.units < cLine) (hz : (z, objO) ∈ G.1) (hv : OV z G v o) (he : TV true G u e)
    (h : Q (.bool (decide (o = some e))) s) : wpAny (model prog w) A (compareOp .Eq v u) Q E s := by
  cases o with
  | none =>
    obtain rfl : v = .ref z := hv
    rw [decide_eq_false (by simp)] at h
    exact null_eq S hu hz he h
  | some d =>
    have e1 : decide (some d = some e) = decide (d = e) := by simp
    rw [e1] at h
    exact c_eq S nb hu hv he h
theorem ov_is {z : Addr} {v : Value} {o : Option (List Int)} {Q : Value → Shared → Prop} (S : St h₀ L s₀ m G s) (hz : (z, objO) ∈ G.1) (hv : OV z G v o)
    (h : Q (.bool (decide (o = none))) s) : wpAny (model prog w) A (compareOp .Is v (.ref z)) Q E s := by
  cases o with
  | none =>
    obtain rfl : v = .ref z := hv
    rw [decide_eq_true rfl] at h
    exact wpAny_is_ref_self h
  | some d =>
    rw [decide_eq_false (by simp)] at h
    exact is_null_tup S hz hv h
end

section
variable {loose : List Str} {prog : Program} {w : World} {A : Around} {E : Value → Shared → Prop} {h₀ : Heap} {L : Addr} {d : Nat} {s₀ s : Shared} {m : NMap} {G : Ctx} {env : Env}
  {cn : Str} {cs : Scope} {a : Addr} {ccd : Value} {cl : List (Str × Addr)}

theorem wipe_rng {jv iv mv sv ev cv zv : Str} {p1 p2 p3 p4 p5 p6 p7 p8 p9 p10 p11 p12 p13 p14 p15 p16 p17 p18 p19 p20 : Pos} {k1 : Nat} {sl z : Addr} {vs : List Value} {n : Nat} {l : OL} {u : Value} {e : List Int} {i ti tm tc : Nat} {Q : Flow → Shared → Prop}
    (am : Am w A (envX cn cs L a ccd cl) h₀ L d)
    (S : St h₀ L s₀ m G s) (hs : (sl, lstO vs n) ∈ G.1) (hv : All2 (OV z G) vs l) (hz : (z, objO) ∈ G.1) (te : TV true G u e)
    (mi : m iv = some (.int (i : Int) ti)) (mm : m mv = some (.int ((l.length : Nat) : Int) tm)) (ms : m sv = some (.ref sl)) (me : m ev = some u) (mz : m zv = some (.ref z)) (mc : m cv = some (.int 0 tc))
    (hi : i ≤ l.length) (h100 : l.length ≤ 100) (hn : ∀ o ∈ l.take i, o = none)
    (n1 : sv ≠ jv) (n2 : sv ≠ cv) (n3 : ev ≠ jv) (n4 : ev ≠ cv) (n5 : zv ≠ jv) (n6 : zv ≠ cv) (n7 : jv ≠ cv)
    (done : ∀ m' G' s' vs' t', St h₀ L s₀ m' G' s' → (∀ y, y ≠ jv → y ≠ cv → m' y = m y) → GrB [sl] G G' → (sl, lstO vs' n) ∈ G'.1 → All2 (OV z G') vs' (l.map (wipe1 e)) → m' cv = some (.int ((l.count (some e) : Nat) : Int) t') → Q .next s')
    (hk : cs.kind = .function := by rfl) (hxi : (envX cn cs L a ccd cl).kindOf iv = some .local := by rfl) (hxm : (envX cn cs L a ccd cl).kindOf mv = some .local := by rfl) (hxs : (envX cn cs L a ccd cl).kindOf sv = some .local := by rfl)
    (hxe : (envX cn cs L a ccd cl).kindOf ev = some .local := by rfl) (hxc : (envX cn cs L a ccd cl).kindOf cv = some .local := by rfl) (hxz : (envX cn cs L a ccd cl).kindOf zv = some .local := by rfl) (hxj : (envX cn cs L a ccd cl).kindOf jv = some .local := by rfl)
    (hxr : (envX cn cs L a ccd cl).kindOf (Str.ofString "range") = some .globalImplicit := by rfl)
    (d1 : (iv == ("__debug__" : Str)) = false := by decide) (d2 : (mv == ("__debug__" : Str)) = false := by decide) (d3 : (sv == ("__debug__" : Str)) = false := by decide) (d4 : (ev == ("__debug__" : Str)) = false := by decide) (d5 : (zv == ("__debug__" : Str)) = false := by decide) (d6 : (jv == ("__debug__" : Str)) = false := by decide) :
    wpAny (Md w) A (exec (.For (.Name jv p1) (.Call (.Name (Str.ofString "range") p2) [.Name iv p3, .Name mv p4] [] p5)
      [.If (.Compare (.Subscript (.Name sv p6) (.Name jv p7) p8) [.Eq] [.Name ev p9] p10)
        [.AugAssign (.Name cv p11) .Add (.Constant (.int 1) k1 p12) p13, .Assign [.Subscript (.Name sv p14) (.Name jv p15) p16] (.Name zv p17) p18] [] p19] [] p20) (envX cn cs L a ccd cl)) Q E s := by
  obtain ⟨Ld, Tk⟩ := G
  refine ForS ?_ (by intro _; exact rfl)
  refine' Call_ ?_ ?he
  case he => exact rfl
  refine nmB am S (k_range _) (by boot_fast) ?_ (by decide) hk hxr (by decide)
  refine' PyProof.Rows.callWith_type1 ?_ ?he ?hp
  case he => exact rfl
  case hp => exact rfl
  refine' args_cons ?_ ?he
  case he => exact rfl
  refine nmL S mi ?_ hk hxi d1
  refine' args_cons ?_ ?he
  case he => exact rfl
  refine nmL S mm ?_ hk hxm d2
  refine args_nil ?_
  refine c_rng2 S fun r t1 u1 v1 s2 S2 => ?_
  obtain ⟨rs1, rs2⟩ := rng_up (a := (i : Int)) (n := (l.length : Int)) (by lia) (by lia) (by lia) (by lia)
  refine it_rng S2 (.head _) rs1 fun I G3 s3 S3 g3 hI hfI => ?_
  rw [rs2] at hI
  have hlen := hv.length
  have hfr : ∀ p ∈ ((Ld, Tk) : Ctx).1, p.1 ≠ I := fun p hp => hfI p (.tail _ hp)
  have g03 : Gr ((Ld, Tk) : Ctx) G3 := Gr.obj.trans g3
  have hIs : sl ≠ I := hfr _ hs
  have c0 : (l.take i).count (some e) = 0 := List.count_eq_zero.mpr fun h => by have := hn _ h; cases this
  refine ⟨l.length - i, fun k s => ∃ m' G' vs' t', St h₀ L s₀ m' G' s ∧ (∀ y, y ≠ jv → y ≠ cv → m' y = m y) ∧ GrB [sl] ((Ld, Tk) : Ctx) G' ∧ (I, rngO ((i + k : Nat) : Int) ((l.length - i - k : Nat) : Int) 1) ∈ G'.1 ∧ (sl, lstO vs' n) ∈ G'.1 ∧
    All2 (OV z G') vs' (wipeN e l (i + k)) ∧ m' cv = some (.int (((l.take (i + k)).count (some e) : Nat) : Int) t'), ⟨m, G3, vs, tc, S3, fun _ _ _ => rfl, .of g03, ?_, g03.a _ hs, ?_, ?_⟩, ?_, ?_⟩
  · have e1 : ((l.length : Int) - (i : Int)).toNat = l.length - i - 0 := by lia
    rw [e1] at hI; exact hI
  · rw [Nat.add_zero, wipeN_none hn]; exact hv.mono fun v o h => h.mono g03
  · rw [Nat.add_zero, c0]; exact mc
  · rintro k s6 hk6 ⟨m6, G6, vs6, t6, S6, e6, g6, hI6, hs6, hv6, c6⟩
    have hq : i + k < l.length := by lia
    have hlen6 := hv6.length
    rw [wipeN_length] at hlen6
    refine nx_rng S6 hI6 (by lia) fun tj G7 s7 S7 g7 hI7 => ?_
    refine lg_rng S7 hI7 ?_
    refine wpAny_assign_Name (stL S7 (fun s8 S8 => ?_) hk hxj)
    have ntI : NT G6 [I] := .cons hI6 rng_nt .nil
    have hs7 := g7.a _ hs6 (by simpa using hIs)
    have hv7 := hv6.mono fun v o h => OV.keepB S6 ntI g7 h
    have gz6 : ∀ q ∈ ((Ld, Tk) : Ctx).1, q.1 ≠ sl → q ∈ G7.1 := fun q hq hn => g7.a _ (g6.a q hq (by simpa using hn)) (by simpa using hfr q hq)
    have g07 : GrB [sl] ((Ld, Tk) : Ctx) G7 := ⟨fun q hq hn => gz6 q hq (by simpa using hn), fun q hq => g7.b _ (g6.b q hq)⟩
    have ntS : NT ((Ld, Tk) : Ctx) [sl] := .cons hs lst_nt .nil
    have te7 : TV true G7 u e := TV.keepB S ntS g07 te
    have hzs : z ≠ sl := fun q => by
      subst q
      have := S.fn hz hs
      have := congrArg Obj.cls this
      simp at this
    have hz7 := gz6 _ hz hzs
    have nz : ∀ y, y ≠ jv → (fun y => if y = jv then some (Value.int ((i + k : Nat) : Int) tj) else m6 y) y = m6 y := fun y hy => by
      show (if y = jv then _ else _) = _
      rw [if_neg hy]
    refine wpAny_execs_cons (wpAny_If ?_)
    refine wpAny_isTrue_Compare1 ?_ (by with_unfolding_all rfl)
    refine Subscript_ ?_
    refine nmL S8 ((nz _ n1).trans ((e6 _ n1 n2).trans ms)) ?_ hk hxs d3
    refine nmL S8 (show (if jv = jv then _ else _) = _ from if_pos rfl) ?_ hk hxj d6
    have hlt : i + k < vs6.length := by lia
    have hov := hv7.get (i + k) hlt (by rw [wipeN_length]; exact hq)
    have hel : (wipeN e l (i + k))[i + k]'(by rw [wipeN_length]; exact hq) = l[i + k] := by
      have := wipeN_at (e := e) hq
      rw [List.getElem?_eq_getElem (by rw [wipeN_length]; exact hq), List.getElem?_eq_getElem hq] at this
      exact Option.some.inj this
    rw [hel] at hov
    refine gIt S8 hs7 (by lia) (by lia) (x := vs6[i + k]) (by rw [show (((i + k : Nat) : Int)).toNat = i + k from by lia]; exact List.getElem?_eq_getElem hlt) ?_
    refine nmL S8 ((nz _ n3).trans ((e6 _ n3 n4).trans me)) ?_ hk hxe d4
    refine ov_eq S8 (am.nbAt S8) am.units0 hz7 hov te7 ?_
    refine wpAny_truthy_bool ?_
    have hcount := count_take hq (some e)
    have ej : ((i + k : Nat) : Int) + 1 = ((i + (k + 1) : Nat) : Int) := by lia
    have el : ((l.length - i - k : Nat) : Int) - 1 = ((l.length - i - (k + 1) : Nat) : Int) := by lia
    rw [ej, el] at hI7
    by_cases hq2 : l[i + k] = some e
    · rw [decide_eq_true hq2, if_pos rfl]
      rw [if_pos hq2] at hcount
      refine wpAny_execs_cons (wpAny_AugAssign_Name (ldL2 S8 ((nz _ (Ne.symm n7)).trans c6) ?_ hk hxc))
      refine cInt S8 fun t2 s9 S9 => ?_
      refine iAug S9 fun t3 s10 S10 => ?_
      refine stL S10 (fun s11 S11 => ?_) hk hxc
      have nc : ∀ y, y ≠ cv → (fun y => if y = cv then some (Value.int ((((l.take (i + k)).count (some e) : Nat) : Int) + 1) t3) else (fun y => if y = jv then some (Value.int ((i + k : Nat) : Int) tj) else m6 y) y) y = (fun y => if y = jv then some (Value.int ((i + k : Nat) : Int) tj) else m6 y) y := fun y hy => by
        show (if y = cv then _ else _) = _
        rw [if_neg hy]
      refine wpAny_execs_cons (wpAny_Assign_Subscript ?_ rfl)
      refine nmL S11 ((nc _ n6).trans ((nz _ n5).trans ((e6 _ n5 n6).trans mz))) ?_ hk hxz d5
      refine nmL S11 ((nc _ n2).trans ((nz _ n1).trans ((e6 _ n1 n2).trans ms))) ?_ hk hxs d3
      refine nmL S11 ((nc _ n7).trans (show (if jv = jv then _ else _) = _ from if_pos rfl)) ?_ hk hxj d6
      refine sIt S11 hs7 (by lia) (by lia) (by lia) fun G12 s12 S12 g12 hs12 => ?_
      refine wpAny_execs_nil ?_
      refine wpAny_execs_nil ⟨.inl rfl, _, G12, _, t3, S12, fun y y1 y2 => ?_, g07.trans g12, g12.a _ hI7 (by simpa using Ne.symm hIs), hs12, ?_, ?_⟩
      · exact (nc _ y2).trans ((nz _ y1).trans (e6 _ y1 y2))
      · have eq0 : i + (k + 1) = i + k + 1 := by lia
        rw [eq0, wipeN_succ hq]
        have e3 : (((i + k : Nat) : Int)).toNat = i + k := by lia
        rw [e3]
        refine All2.set _ (hv7.mono fun v o h => OV.keepB S7 (.cons hs7 lst_nt .nil) g12 h) ?_
        rw [hq2]; unfold wipe1; rw [if_pos rfl]; rfl
      · show (if cv = cv then _ else _) = _
        rw [if_pos rfl]
        have eq0 : i + (k + 1) = i + k + 1 := by lia
        rw [eq0, hcount]; rfl
    · rw [decide_eq_false hq2, if_neg (by decide)]
      rw [if_neg hq2] at hcount
      refine wpAny_execs_nil ?_
      have eq0 : i + (k + 1) = i + k + 1 := by lia
      refine wpAny_execs_nil ⟨.inl rfl, _, G7, _, t6, S8, fun y y1 y2 => (nz _ y1).trans (e6 _ y1 y2), g07, hI7, hs7, ?_, ?_⟩
      · rw [eq0, wipeN_skip hq hq2]; exact hv7
      · rw [eq0, hcount]; exact (nz _ (Ne.symm n7)).trans c6
  · rintro s6 ⟨m6, G6, vs6, t6, S6, e6, g6, hI6, hs6, hv6, c6⟩
    refine nx_rng_end am.hh S6 hI6 (by lia) fun G7 s7 S7 g7 => ⟨rfl, ?_⟩
    have ntI : NT G6 [I] := .cons hI6 rng_nt .nil
    have ei : i + (l.length - i) = l.length := by lia
    rw [ei] at hv6 c6
    rw [wipeN_all] at hv6
    rw [List.take_length] at c6
    refine done m6 G7 s7 vs6 t6 S7 e6 ⟨fun q hq hn => g7.a _ (g6.a q hq hn) (by simpa using hfr q hq), fun q hq => g7.b _ (g6.b q hq)⟩ (g7.a _ hs6 (by simpa using hIs)) (hv6.mono fun v o h => OV.keepB S6 ntI g7 h) c6
end
end

-- V2
section

section
variable {prog : Program} {w : World} {A : Around} {E : Value → Shared → Prop} {h₀ : Heap} {L : Addr} {d : Nat} {s₀ s : Shared} {m : NMap} {G : Ctx} {env : Env}
  {cn : Str} {cs : Scope} {a : Addr} {ccd : Value} {cl : List (Str × Addr)}
theorem wipe_enm {jv ov sv ev cv zv : Str} {p1 p2 p3 p4 p5 p6 p9 p10 p11 p12 p13 p14 p15 p16 p17 p18 p19 p20 : Pos} {k0 k1 : Nat} {sl z : Addr} {vs : List Value} {n : Nat} {l : OL} {u : Value} {e : List Int} {tc : Nat} {Q : Flow → Shared → Prop}
    (am : Am w A (envX cn cs L a ccd cl) h₀ L d)
    (S : St h₀ L s₀ m G s) (hs : (sl, lstO vs n) ∈ G.1) (hv : All2 (OV z G) vs l) (hz : (z, objO) ∈ G.1) (te : TV true G u e)
    (ms : m sv = some (.ref sl)) (me : m ev = some u) (mz : m zv = some (.ref z)) (mc : m cv = some (.int 0 tc)) (h100 : l.length ≤ 100)
    (n1 : sv ≠ jv) (n2 : sv ≠ cv) (n3 : ev ≠ jv) (n4 : ev ≠ cv) (n5 : zv ≠ jv) (n6 : zv ≠ cv) (n7 : jv ≠ cv) (o1 : sv ≠ ov) (o3 : ev ≠ ov) (o5 : zv ≠ ov) (o7 : cv ≠ ov) (o8 : jv ≠ ov)
    (done : ∀ m' G' s' vs' t', St h₀ L s₀ m' G' s' → (∀ y, y ≠ jv → y ≠ cv → y ≠ ov → m' y = m y) → GrB [sl] G G' → (sl, lstO vs' n) ∈ G'.1 → All2 (OV z G') vs' (l.map (wipe1 e)) → m' cv = some (.int ((l.count (some e) : Nat) : Int) t') → Q .next s')
    (hk : cs.kind = .function := by rfl) (hxs : (envX cn cs L a ccd cl).kindOf sv = some .local := by rfl)
    (hxe : (envX cn cs L a ccd cl).kindOf ev = some .local := by rfl) (hxc : (envX cn cs L a ccd cl).kindOf cv = some .local := by rfl) (hxz : (envX cn cs L a ccd cl).kindOf zv = some .local := by rfl) (hxj : (envX cn cs L a ccd cl).kindOf jv = some .local := by rfl)
    (hxo : (envX cn cs L a ccd cl).kindOf ov = some .local := by rfl) (hxr : (envX cn cs L a ccd cl).kindOf (Str.ofString "enumerate") = some .globalImplicit := by rfl)
    (d3 : (sv == ("__debug__" : Str)) = false := by decide) (d4 : (ev == ("__debug__" : Str)) = false := by decide) (d5 : (zv == ("__debug__" : Str)) = false := by decide) (d6 : (jv == ("__debug__" : Str)) = false := by decide) (d7 : (ov == ("__debug__" : Str)) = false := by decide) :
    wpAny (Md w) A (exec (.For (.Tuple [.Name jv p1, .Name ov p6] k0 p3) (.Call (.Name (Str.ofString "enumerate") p2) [.Name sv p4] [] p5)
      [.If (.Compare (.Name ov p9) [.Eq] [.Name ev p19] p10)
        [.AugAssign (.Name cv p11) .Add (.Constant (.int 1) k1 p12) p13, .Assign [.Subscript (.Name sv p14) (.Name jv p15) p16] (.Name zv p17) p18] [] p20] [] p1) (envX cn cs L a ccd cl)) Q E s := by
  obtain ⟨Ld, Tk⟩ := G
  refine ForS ?_ (by intro _; exact rfl)
  refine' Call_ ?_ ?he
  case he => exact rfl
  refine nmB am S (k_enumerate _) (by boot_fast) ?_ (by decide) hk hxr (by decide)
  refine' PyProof.Rows.callWith_type1 ?_ ?he ?hp
  case he => exact rfl
  case hp => exact rfl
  refine' args_cons ?_ ?he
  case he => exact rfl
  refine nmL S ms ?_ hk hxs d3
  refine args_nil ?_
  have hlen := hv.length
  refine c_enm S hs fun en I G3 s3 S3 g3 hI hen hne hfI => ?_
  refine it_enm S3 hen ?_
  have hIs : sl ≠ I := (hfI _ hs).1
  have hes : sl ≠ en := (hfI _ hs).2
  have hfr : ∀ q ∈ ((Ld, Tk) : Ctx).1, q.1 ∉ [en, I] := fun q hq => by
    have := hfI q hq
    simp [this.1, this.2]
  refine ⟨l.length, fun k s => ∃ m' G' vs' t' old, St h₀ L s₀ m' G' s ∧ (∀ y, y ≠ jv → y ≠ cv → y ≠ ov → m' y = m y) ∧ GrB [sl] ((Ld, Tk) : Ctx) G' ∧ LI G' I sl k ∧ (en, enmO I (k : Int) old) ∈ G'.1 ∧ (sl, lstO vs' n) ∈ G'.1 ∧
    All2 (OV z G') vs' (wipeN e l k) ∧ m' cv = some (.int (((l.take k).count (some e) : Nat) : Int) t'), ⟨m, G3, vs, tc, .none, S3, fun _ _ _ _ => rfl, .of g3, hI, hen, g3.a _ hs, ?_, ?_⟩, ?_, ?_⟩
  · rw [wipeN_zero]; exact hv.mono fun v o h => h.mono g3
  · exact mc
  · rintro k s6 hq ⟨m6, G6, vs6, t6, old, S6, e6, g6, hI6, he6, hs6, hv6, c6⟩
    have hlen6 := hv6.length
    rw [wipeN_length] at hlen6
    have hlt : k < vs6.length := by lia
    refine nx_enm S6 he6 hI6 hne hs6 (List.getElem?_eq_getElem hlt) fun ta tj G7 s7 S7 g7 hI7 he7 hta => ?_
    have ntI : NT G6 [en, I] := .cons he6 enm_nt (.cons hI6.nt.choose_spec.1 hI6.nt.choose_spec.2 .nil)
    have hs7 := g7.a _ hs6 (by simp [hIs, hes])
    have hv7 := hv6.mono fun v o h => OV.keepB S6 ntI g7 h
    have gz6 : ∀ q ∈ ((Ld, Tk) : Ctx).1, q.1 ≠ sl → q ∈ G7.1 := fun q hq hn => g7.a _ (g6.a q hq (by simpa using hn)) (hfr q hq)
    have g07 : GrB [sl] ((Ld, Tk) : Ctx) G7 := ⟨fun q hq hn => gz6 q hq (by simpa using hn), fun q hq => g7.b _ (g6.b q hq)⟩
    have ntS : NT ((Ld, Tk) : Ctx) [sl] := .cons hs lst_nt .nil
    have te7 : TV true G7 u e := TV.keepB S ntS g07 te
    have hzs : z ≠ sl := fun q => by
      subst q
      have := S.fn hz hs
      have := congrArg Obj.cls this
      simp at this
    have hz7 := gz6 _ hz hzs
    have hov := hv7.get k hlt (by rw [wipeN_length]; exact hq)
    have hel : (wipeN e l k)[k]'(by rw [wipeN_length]; exact hq) = l[k] := by
      have := wipeN_at (e := e) hq
      rw [List.getElem?_eq_getElem (by rw [wipeN_length]; exact hq), List.getElem?_eq_getElem hq] at this
      exact Option.some.inj this
    rw [hel] at hov
    refine unp2 S7 hta am.hh fun s8 S8 => ?_
    refine assignInOrder_cons (wpAny_assign_Name (stL S8 (fun s9 S9 => ?_) hk hxj))
    refine assignInOrder_cons (wpAny_assign_Name (stL S9 (fun s10 S10 => ?_) hk hxo))
    refine assignInOrder_nil ?_
    have nz : ∀ y, y ≠ jv → y ≠ ov → (fun y => if y = ov then some vs6[k] else (fun y => if y = jv then some (Value.int (k : Int) tj) else m6 y) y) y = m6 y := fun y hy ho => by
      show (if y = ov then _ else if y = jv then _ else _) = _
      rw [if_neg ho, if_neg hy]
    have nj : (fun y => if y = ov then some vs6[k] else (fun y => if y = jv then some (Value.int (k : Int) tj) else m6 y) y) jv = some (Value.int (k : Int) tj) := by
      show (if jv = ov then _ else if jv = jv then _ else _) = _
      rw [if_neg o8, if_pos rfl]
    refine wpAny_execs_cons (wpAny_If ?_)
    refine wpAny_isTrue_Compare1 ?_ (by with_unfolding_all rfl)
    refine nmL S10 (show (if ov = ov then _ else _) = _ from if_pos rfl) ?_ hk hxo d7
    refine nmL S10 ((nz _ n3 o3).trans ((e6 _ n3 n4 o3).trans me)) ?_ hk hxe d4
    refine ov_eq S10 (am.nbAt S10) am.units0 hz7 hov te7 ?_
    refine wpAny_truthy_bool ?_
    have hcount := count_take hq (some e)
    by_cases hq2 : l[k] = some e
    · rw [decide_eq_true hq2, if_pos rfl]
      rw [if_pos hq2] at hcount
      refine wpAny_execs_cons (wpAny_AugAssign_Name (ldL2 S10 ((nz _ (Ne.symm n7) o7).trans c6) ?_ hk hxc))
      refine cInt S10 fun t2 s11 S11 => ?_
      refine iAug S11 fun t3 s12 S12 => ?_
      refine stL S12 (fun s13 S13 => ?_) hk hxc
      have nc : ∀ y, y ≠ cv → (fun y => if y = cv then some (Value.int ((((l.take k).count (some e) : Nat) : Int) + 1) t3) else (fun y => if y = ov then some vs6[k] else (fun y => if y = jv then some (Value.int (k : Int) tj) else m6 y) y) y) y = (fun y => if y = ov then some vs6[k] else (fun y => if y = jv then some (Value.int (k : Int) tj) else m6 y) y) y := fun y hy => by
        show (if y = cv then _ else _) = _
        rw [if_neg hy]
      refine wpAny_execs_cons (wpAny_Assign_Subscript ?_ rfl)
      refine nmL S13 ((nc _ n6).trans ((nz _ n5 o5).trans ((e6 _ n5 n6 o5).trans mz))) ?_ hk hxz d5
      refine nmL S13 ((nc _ n2).trans ((nz _ n1 o1).trans ((e6 _ n1 n2 o1).trans ms))) ?_ hk hxs d3
      refine nmL S13 ((nc _ n7).trans nj) ?_ hk hxj d6
      refine sIt S13 hs7 (by lia) (by lia) (by lia) fun G14 s14 S14 g14 hs14 => ?_
      refine wpAny_execs_nil ?_
      refine wpAny_execs_nil ⟨.inl rfl, _, G14, _, t3, _, S14, fun y y1 y2 y3 => ?_, g07.trans g14, hI7.keep g14 (by simpa using Ne.symm hIs), g14.a _ he7 (by simpa using Ne.symm hes), hs14, ?_, ?_⟩
      · exact (nc _ y2).trans ((nz _ y1 y3).trans (e6 _ y1 y2 y3))
      · rw [wipeN_succ hq]
        have e3 : ((k : Int)).toNat = k := by lia
        rw [e3]
        refine All2.set _ (hv7.mono fun v o h => OV.keepB S7 (.cons hs7 lst_nt .nil) g14 h) ?_
        rw [hq2]; unfold wipe1; rw [if_pos rfl]; rfl
      · show (if cv = cv then _ else _) = _
        rw [if_pos rfl, hcount]; rfl
    · rw [decide_eq_false hq2, if_neg (by decide)]
      rw [if_neg hq2] at hcount
      refine wpAny_execs_nil ?_
      refine wpAny_execs_nil ⟨.inl rfl, _, G7, _, t6, _, S10, fun y y1 y2 y3 => (nz _ y1 y3).trans (e6 _ y1 y2 y3), g07, hI7, he7, hs7, ?_, ?_⟩
      · rw [wipeN_skip hq hq2]; exact hv7
      · rw [hcount]; exact (nz _ (Ne.symm n7) o7).trans c6
  · rintro s6 ⟨m6, G6, vs6, t6, old, S6, e6, g6, hI6, he6, hs6, hv6, c6⟩
    have hlen6 := hv6.length
    rw [wipeN_length] at hlen6
    refine nx_enm_end am.hh S6 he6 hI6 hs6 (List.getElem?_eq_none (by lia)) fun G7 s7 S7 g7 => ⟨rfl, ?_⟩
    have ntI : NT G6 [en, I] := .cons he6 enm_nt (.cons hI6.nt.choose_spec.1 hI6.nt.choose_spec.2 .nil)
    rw [wipeN_all] at hv6
    rw [List.take_length] at c6
    refine done m6 G7 s7 vs6 t6 S7 e6 ⟨fun q hq hn => g7.a _ (g6.a q hq hn) (hfr q hq), fun q hq => g7.b _ (g6.b q hq)⟩ (g7.a _ hs6 (by simp [hIs, hes])) (hv6.mono fun v o h => OV.keepB S6 ntI g7 h) c6
end
end

-- U7
section

theorem keep170 (P : Params) : keepIn (hd.heap_1 P) (.ref 170) = true := by kernel_rfl
section
variable {w : World} {A : Around} {E : Value → Shared → Prop} {env env' : Env} {h₀ : Heap} {L : Addr} {d : Nat} {s : Shared}
theorem cCls {pos : Pos} {e : Expr} {rest : List Expr} {Q : Value → Shared → Prop} (am : Am w A env h₀ L d)
    (h : wpAny (Md w) A (spliced (backTo pos (starEach (e :: rest) env'))) (fun vs s₁ => (∃ s₀ m G, St h₀ L s₀ m G s₁) ∧ wpAny (Md w) A (call (.ref 170) vs) Q E s₁) E s)
    (he : starEach (e :: rest) env' = (false, eval e env') :: starEach rest env' := by rfl) (hplain : ((backTo pos (starEach (e :: rest) env')).any (·.1) || ([] : List (Option Str × Sem Value)).any (·.1.isNone)) = false := by rfl) :
    wpAny (Md w) A (callWith pos (.ref 170) [] (backTo pos (starEach (e :: rest) env')) []) Q E s := by
  refine callWith_of hplain (keeps_K (keep170 w.params)) ?_
  rw [he] at h ⊢
  refine evalArgs_plain (wpAny_mono h (fun vs s₁ h => ⟨?_, h.2⟩) fun _ _ x => x)
  obtain ⟨⟨s₀, m, G, S⟩, _⟩ := h
  exact am.X.keeps S.F.keep
end
end

-- V3
section

def mask (seen l : List (List Int)) : OL := l.map fun d => if d ∈ seen then none else some d
theorem mask_length (seen l : List (List Int)) : (mask seen l).length = l.length := List.length_map _
theorem mask_nil (l : List (List Int)) : mask [] l = l.map some := by unfold mask; simp
theorem mask_wipe (seen l : List (List Int)) (e : List Int) : (mask seen l).map (wipe1 e) = mask (seen ++ [e]) l := by
  unfold mask
  rw [List.map_map]
  refine List.map_congr_left fun d _ => ?_
  by_cases h : d ∈ seen
  · simp [h, wipe1]
  · by_cases q : d = e
    · subst q; simp [h, wipe1]
    · simp [h, q, wipe1]
theorem mask_count {seen l : List (List Int)} {e : List Int} (h : e ∉ seen) : (mask seen l).count (some e) = l.count e := by
  unfold mask
  induction l with
  | nil => rfl
  | cons d r ih =>
    rw [List.map_cons, List.count_cons, List.count_cons, ih]
    congr 1
    by_cases q : d = e
    · subst q; simp [h]
    · by_cases hd : d ∈ seen <;> simp [hd, q]
theorem mask_seen {seen l : List (List Int)} {e : List Int} (h : e ∈ seen) : mask (seen ++ [e]) l = mask seen l := by
  unfold mask
  refine List.map_congr_left fun d _ => ?_
  have : d ∈ seen ++ [e] ↔ d ∈ seen := by
    rw [List.mem_append, List.mem_singleton]
    exact ⟨fun q => q.elim id fun q => q ▸ h, .inl⟩
  simp only [this]
theorem mask_get {seen l : List (List Int)} {i : Nat} (h : i < l.length) : (mask seen l)[i]? = some (if l[i] ∈ seen then none else some l[i]) := by
  unfold mask; simp [h]
theorem mask_take {pre l : List (List Int)} {i : Nat} : ∀ o ∈ (mask (pre ++ l.take i) l).take i, o = none := by
  intro o ho
  unfold mask at ho
  rw [← List.map_take] at ho
  obtain ⟨d, hd, rfl⟩ := List.mem_map.mp ho
  rw [if_pos (List.mem_append.mpr (.inr hd))]

abbrev Row := Nat × Nat × List Int
def rowsA (ds es : List (List Int)) (i : Nat) : List Row := ((List.range i).filter fun k => decide (ds.getD k [] ∉ ds.take k) && decide (ds.count (ds.getD k []) ≠ es.count (ds.getD k []))).map fun k => (ds.count (ds.getD k []), es.count (ds.getD k []), ds.getD k [])
def rowsB (ds es : List (List Int)) (i : Nat) : List Row := ((List.range i).filter fun k => decide (es.getD k [] ∉ ds ++ es.take k)).map fun k => (0, es.count (es.getD k []), es.getD k [])
theorem rowsA_succ (ds es : List (List Int)) (i : Nat) : rowsA ds es (i + 1) = rowsA ds es i ++ if decide (ds.getD i [] ∉ ds.take i) && decide (ds.count (ds.getD i []) ≠ es.count (ds.getD i [])) then [(ds.count (ds.getD i []), es.count (ds.getD i []), ds.getD i [])] else [] := by
  unfold rowsA
  rw [List.range_succ, List.filter_append, List.map_append]
  congr 1
  rw [List.filter_cons]
  split <;> rfl
theorem rowsB_succ (ds es : List (List Int)) (i : Nat) : rowsB ds es (i + 1) = rowsB ds es i ++ if decide (es.getD i [] ∉ ds ++ es.take i) then [(0, es.count (es.getD i []), es.getD i [])] else [] := by
  unfold rowsB
  rw [List.range_succ, List.filter_append, List.map_append]
  congr 1
  rw [List.filter_cons]
  split <;> rfl
theorem rowsA_length (ds es : List (List Int)) (i : Nat) : (rowsA ds es i).length ≤ i := by
  unfold rowsA; rw [List.length_map]; refine Nat.le_trans (List.length_filter_le _ _) ?_; simp
theorem rowsB_length (ds es : List (List Int)) (i : Nat) : (rowsB ds es i).length ≤ i := by
  unfold rowsB; rw [List.length_map]; refine Nat.le_trans (List.length_filter_le _ _) ?_; simp

def MV (G : Ctx) (v : Value) (r : Row) : Prop := ∃ x dx t t' u, v = .ref x ∧ (x, mmO [.int (r.1 : Int) t, .int (r.2.1 : Int) t', u] dx) ∈ G.1 ∧ (dx, emptyDict) ∈ G.1 ∧ TV true G u r.2.2
theorem MV.mono {G G' : Ctx} (g : Gr G G') {v : Value} {r : Row} (h : MV G v r) : MV G' v r := by
  obtain ⟨x, dx, t, t', u, e, h1, h2, h3⟩ := h
  exact ⟨x, dx, t, t', u, e, g.a _ h1, g.a _ h2, TV.mono g h3⟩
def plainO (o : Obj) : Prop := (∀ xs, o ≠ tupO xs) ∧ (∀ xs dx, o ≠ mmO xs dx) ∧ o ≠ emptyDict
theorem MV.keepB {h₀ : Heap} {L : Addr} {s₀ s : Shared} {m : NMap} {G G' : Ctx} {l : List Addr} (S : St h₀ L s₀ m G s) (hl : ∀ a ∈ l, ∃ o, (a, o) ∈ G.1 ∧ plainO o) (g : GrB l G G') {v : Value} {r : Row} (h : MV G v r) : MV G' v r := by
  obtain ⟨x, dx, t, t', u, e, h1, h2, h3⟩ := h
  refine ⟨x, dx, t, t', u, e, g.a _ h1 fun hm => ?_, g.a _ h2 fun hm => ?_, TV.keepB S (fun a ha => let ⟨o, a1, a2⟩ := hl a ha; ⟨o, a1, a2.1⟩) g h3⟩
  · obtain ⟨o, a1, a2⟩ := hl _ hm
    exact a2.2.1 _ _ (S.fn a1 h1)
  · obtain ⟨o, a1, a2⟩ := hl _ hm
    exact a2.2.2 (S.fn a1 h2)
theorem lst_plain {vs : List Value} {n : Nat} : plainO (lstO vs n) := ⟨lst_nt, fun xs dx h => by have := congrArg Obj.cls h; simp at this, fun h => by have := congrArg Obj.cls h; simp at this⟩
theorem enm_plain {I : Addr} {i : Int} {old : Value} : plainO (enmO I i old) := ⟨enm_nt, fun xs dx h => by have := congrArg Obj.cls h; simp at this, fun h => by have := congrArg Obj.cls h; simp at this⟩
theorem li_plain {G : Ctx} {I l : Addr} {i : Nat} (h : LI G I l i) : ∃ o, (I, o) ∈ G.1 ∧ plainO o := by
  obtain ⟨o, h1, h2, h3⟩ := h
  refine ⟨o, h1, fun xs e => ?_, fun xs dx e => ?_, fun e => ?_⟩
  · rw [e] at h2; simp at h2
  · rw [e] at h2; simp at h2
  · rw [e] at h2; simp at h2

structure CdN (sl tl z R : Addr) (ds es : List (List Int)) (m : NMap) : Prop where
  es_ : m (Str.ofString "s") = some (.ref sl)
  et_ : m (Str.ofString "t") = some (.ref tl)
  em_ : ∃ k, m (Str.ofString "m") = some (.int ((ds.length : Nat) : Int) k)
  en_ : ∃ k, m (Str.ofString "n") = some (.int ((es.length : Nat) : Int) k)
  ez_ : m (Str.ofString "NULL") = some (.ref z)
  er_ : m (Str.ofString "result") = some (.ref R)
theorem CdN.of {sl tl z R : Addr} {ds es : List (List Int)} {m m' : NMap} (h : CdN sl tl z R ds es m) (h1 : m' (Str.ofString "s") = m (Str.ofString "s")) (h2 : m' (Str.ofString "t") = m (Str.ofString "t")) (h3 : m' (Str.ofString "m") = m (Str.ofString "m"))
    (h4 : m' (Str.ofString "n") = m (Str.ofString "n")) (h5 : m' (Str.ofString "NULL") = m (Str.ofString "NULL")) (h6 : m' (Str.ofString "result") = m (Str.ofString "result")) : CdN sl tl z R ds es m' :=
  ⟨h1.trans h.es_, h2.trans h.et_, by obtain ⟨k, e⟩ := h.em_; exact ⟨k, h3.trans e⟩, by obtain ⟨k, e⟩ := h.en_; exact ⟨k, h4.trans e⟩, h5.trans h.ez_, h6.trans h.er_⟩
structure CdC (G₀ : Ctx) (sl tl z R : Addr) (ns nt : Nat) (X : List (List Int)) (ds : List (List Int)) (Y : List (List Int)) (es : List (List Int)) (rows : List Row) (G : Ctx) : Prop where
  cg : Gr G₀ G
  cz : (z, objO) ∈ G.1
  cS : ∃ vs, (sl, lstO vs ns) ∈ G.1 ∧ All2 (OV z G) vs (mask X ds)
  cT : ∃ vs, (tl, lstO vs nt) ∈ G.1 ∧ All2 (OV z G) vs (mask Y es)
  cR : ∃ ys c, (R, lstO ys c) ∈ G.1 ∧ All2 (MV G) ys rows
section
variable {h₀ : Heap} {L : Addr} {s₀ s : Shared} {m : NMap} {G G' G₀ : Ctx} {sl tl z R : Addr} {ns nt : Nat} {X ds Y es : List (List Int)} {rows : List Row}
theorem CdC.keepB {l : List Addr} (h : CdC G₀ sl tl z R ns nt X ds Y es rows G) (S : St h₀ L s₀ m G s) (hl : ∀ a ∈ l, ∃ o, (a, o) ∈ G.1 ∧ plainO o) (h0 : ∀ p ∈ G₀.1, p.1 ∉ l) (n1 : sl ∉ l) (n2 : tl ∉ l) (n3 : z ∉ l) (n4 : R ∉ l) (g : GrB l G G') :
    CdC G₀ sl tl z R ns nt X ds Y es rows G' := by
  have nt' : NT G l := fun a ha => let ⟨o, a1, a2⟩ := hl a ha; ⟨o, a1, a2.1⟩
  obtain ⟨vs, a1, a2⟩ := h.cS
  obtain ⟨vt, b1, b2⟩ := h.cT
  obtain ⟨ys, c, c1, c2⟩ := h.cR
  exact ⟨⟨fun q hq => g.a _ (h.cg.a q hq) (h0 q hq), fun q hq => g.b _ (h.cg.b q hq)⟩, g.a _ h.cz n3, ⟨vs, g.a _ a1 n1, a2.mono fun v o h => OV.keepB S nt' g h⟩, ⟨vt, g.a _ b1 n2, b2.mono fun v o h => OV.keepB S nt' g h⟩, ⟨ys, c, g.a _ c1 n4, c2.mono fun v o h => MV.keepB S hl g h⟩⟩
theorem CdC.setS {X' : List (List Int)} (h : CdC G₀ sl tl z R ns nt X ds Y es rows G) (S : St h₀ L s₀ m G s) (g : GrB [sl] G G') (f : ∀ p ∈ G₀.1, p.1 ≠ sl) (n2 : sl ≠ tl) (n3 : sl ≠ z) (n4 : sl ≠ R) {vs' : List Value} (a : (sl, lstO vs' ns) ∈ G'.1) (b : All2 (OV z G') vs' (mask X' ds)) :
    CdC G₀ sl tl z R ns nt X' ds Y es rows G' := by
  obtain ⟨vs, a1, a2⟩ := h.cS
  have pl : ∀ a ∈ [sl], ∃ o, (a, o) ∈ G.1 ∧ plainO o := fun a ha => by rw [List.mem_singleton.mp ha]; exact ⟨_, a1, lst_plain⟩
  have nt' : NT G [sl] := fun a ha => let ⟨o, a1, a2⟩ := pl a ha; ⟨o, a1, a2.1⟩
  obtain ⟨vt, b1, b2⟩ := h.cT
  obtain ⟨ys, c, c1, c2⟩ := h.cR
  exact ⟨⟨fun q hq => g.a _ (h.cg.a q hq) (by simpa using f q hq), fun q hq => g.b _ (h.cg.b q hq)⟩, g.a _ h.cz (by simpa using Ne.symm n3), ⟨vs', a, b⟩, ⟨vt, g.a _ b1 (by simpa using Ne.symm n2), b2.mono fun v o h => OV.keepB S nt' g h⟩, ⟨ys, c, g.a _ c1 (by simpa using Ne.symm n4), c2.mono fun v o h => MV.keepB S pl g h⟩⟩
theorem CdC.setT {Y' : List (List Int)} (h : CdC G₀ sl tl z R ns nt X ds Y es rows G) (S : St h₀ L s₀ m G s) (g : GrB [tl] G G') (f : ∀ p ∈ G₀.1, p.1 ≠ tl) (n2 : sl ≠ tl) (n3 : tl ≠ z) (n4 : tl ≠ R) {vs' : List Value} (a : (tl, lstO vs' nt) ∈ G'.1) (b : All2 (OV z G') vs' (mask Y' es)) :
    CdC G₀ sl tl z R ns nt X ds Y' es rows G' := by
  obtain ⟨vs, a1, a2⟩ := h.cS
  obtain ⟨vt, b1, b2⟩ := h.cT
  have pl : ∀ a ∈ [tl], ∃ o, (a, o) ∈ G.1 ∧ plainO o := fun a ha => by rw [List.mem_singleton.mp ha]; exact ⟨_, b1, lst_plain⟩
  have nt' : NT G [tl] := fun a ha => let ⟨o, a1, a2⟩ := pl a ha; ⟨o, a1, a2.1⟩
  obtain ⟨ys, c, c1, c2⟩ := h.cR
  exact ⟨⟨fun q hq => g.a _ (h.cg.a q hq) (by simpa using f q hq), fun q hq => g.b _ (h.cg.b q hq)⟩, g.a _ h.cz (by simpa using Ne.symm n3), ⟨vs, g.a _ a1 (by simpa using n2), a2.mono fun v o h => OV.keepB S nt' g h⟩, ⟨vs', a, b⟩, ⟨ys, c, g.a _ c1 (by simpa using Ne.symm n4), c2.mono fun v o h => MV.keepB S pl g h⟩⟩
theorem CdC.setR {rows' : List Row} (h : CdC G₀ sl tl z R ns nt X ds Y es rows G) (S : St h₀ L s₀ m G s) (g : GrB [R] G G') (f : ∀ p ∈ G₀.1, p.1 ≠ R) (n2 : sl ≠ R) (n3 : z ≠ R) (n4 : tl ≠ R) {ys' : List Value} {c : Nat} (a : (R, lstO ys' c) ∈ G'.1) (b : All2 (MV G') ys' rows') :
    CdC G₀ sl tl z R ns nt X ds Y es rows' G' := by
  obtain ⟨vs, a1, a2⟩ := h.cS
  obtain ⟨vt, b1, b2⟩ := h.cT
  obtain ⟨ys, c, c1, c2⟩ := h.cR
  have pl : ∀ a ∈ [R], ∃ o, (a, o) ∈ G.1 ∧ plainO o := fun a ha => by rw [List.mem_singleton.mp ha]; exact ⟨_, c1, lst_plain⟩
  have nt' : NT G [R] := fun a ha => let ⟨o, a1, a2⟩ := pl a ha; ⟨o, a1, a2.1⟩
  exact ⟨⟨fun q hq => g.a _ (h.cg.a q hq) (by simpa using f q hq), fun q hq => g.b _ (h.cg.b q hq)⟩, g.a _ h.cz (by simpa using n3), ⟨vs, g.a _ a1 (by simpa using n2), a2.mono fun v o h => OV.keepB S nt' g h⟩, ⟨vt, g.a _ b1 (by simpa using n4), b2.mono fun v o h => OV.keepB S nt' g h⟩, ⟨ys', _, a, b⟩⟩
theorem CdC.mono (h : CdC G₀ sl tl z R ns nt X ds Y es rows G) (g : Gr G G') : CdC G₀ sl tl z R ns nt X ds Y es rows G' := by
  obtain ⟨vs, a1, a2⟩ := h.cS
  obtain ⟨vt, b1, b2⟩ := h.cT
  obtain ⟨ys, c, c1, c2⟩ := h.cR
  exact ⟨h.cg.trans g, g.a _ h.cz, ⟨vs, g.a _ a1, a2.mono fun v o h => OV.mono g h⟩, ⟨vt, g.a _ b1, b2.mono fun v o h => OV.mono g h⟩, ⟨ys, c, g.a _ c1, c2.mono fun v o h => MV.mono g h⟩⟩
end

set_option maxHeartbeats 4000000 in
theorem sp_cdiff {w : World} {d : Nat} {G : Ctx} {l1 l2 : Addr} {us1 us2 : List Value} {n1 n2 : Nat} {ds es : List (List Int)} (hl1 : (l1, lstO us1 n1) ∈ G.1) (hd1 : All2 (TV true G) us1 ds) (hl2 : (l2, lstO us2 n2) ∈ G.1) (hd2 : All2 (TV true G) us2 es)
    (hz1 : ds.length ≤ 100) (hz2 : es.length ≤ 100) :
    Sp w 180 [.ref l1, .ref l2] (d + 4) G (fun G' v => Gr G G' ∧ ∃ l ys n, v = .ref l ∧ (∀ p ∈ G.1, p.1 ≠ l) ∧ (l, lstO ys n) ∈ G'.1 ∧ All2 (MV G') ys (rowsA ds es ds.length ++ rowsB ds es es.length)) := by
  obtain ⟨Ld, Tk⟩ := G
  intro A env h₀ L s₀ m sB Q E am S hQ
  refine' enterL (binds := [(Str.ofString "actual", .ref l1), (Str.ofString "expected", .ref l2)]) am S ?ho ?hc ?hb ?hl ?c1 ?c2 ?c3 ?c4 _ ?_ hQ
  case ho => k_is
  case hc => k_is
  case hb => exact BindsTo.of_eq rfl
  case hl => exact locs rfl
  case c1 => exact rfl
  case c2 => exact rfl
  case c3 => exact rfl
  case c4 => decide
  intro g' L' s₁ env' A' m' am' S₁
  clear S hQ am
  have zu1 := hd1.length
  have zu2 := hd2.length
  dsimp only at hl1 hl2
  try with_reducible refine wpGen fun Qg1 ig1 => ?_
  repeat' (walk_at "go")
  show wpAny _ _ (assignInOrder [bindName _ (Str.ofString "t"), bindName _ (Str.ofString "s")] [_, _]) _ _ _
  try with_reducible refine wpGen fun Qg2 ig2 => ?_
  repeat' (walk_at "go")
  show wpAny _ _ (assignInOrder [bindName _ (Str.ofString "n"), bindName _ (Str.ofString "m")] [_, _]) _ _ _
  try with_reducible refine wpGen fun Qg3 ig3 => ?_
  repeat' (walk_at "go")
  refine PyProof.Rows.callWith_type0 ?_
  rename_i x1 y1 sl c1 x2 y2 hf1 tl c2 x3 y3 hf2 a4 x4 y4 hn4 x5 y5 x6 y6 x7 y7 tm x8 y8 tn x9 y9 a10 x10 y10 hn10 x11 y11 x12 y12 s13 S13
  clear y1 y2 y3 y4 y5 y6 y7 y8 y9 y10 y11 y12 S₁
  refine c_object S13 fun z s14 S14 hfz => ?_
  try with_reducible refine wpGen fun Qg4 ig4 => ?_
  repeat' (walk_at "go")
  rename_i s15 S15 R s16 S16 hfR s17 S17
  clear S13 S14 S15 S16
  refine ForS ?_ (by intro _; exact rfl)
  skip
  repeat' (walk_at "go")
  have gB0 : Gr ((Ld, Tk) : Ctx) ((R, lstO [] 0) :: (z, objO) :: (a10, tupO [.int (us1.length : Int) tm, .int (us2.length : Int) tn]) :: (a4, tupO [.ref sl, .ref tl]) :: (tl, lstO us2 c2) :: (sl, lstO us1 c1) :: Ld, Tk) := by walk_at "gg"
  have hC0 : CdC (Ld, Tk) sl tl z R c1 c2 (ds.take 0) ds (ds.take 0) es (rowsA ds es 0) ((R, lstO [] 0) :: (z, objO) :: (a10, tupO [.int (us1.length : Int) tm, .int (us2.length : Int) tn]) :: (a4, tupO [.ref sl, .ref tl]) :: (tl, lstO us2 c2) :: (sl, lstO us1 c1) :: Ld, Tk) :=
    ⟨gB0, by walk_at "mm", ⟨us1, by walk_at "mm", by rw [List.take_zero, mask_nil]; exact All2.mapR (R := OV z _) (g := some) (hd1.mono fun v d h => TV.mono gB0 h)⟩, ⟨us2, by walk_at "mm", by rw [List.take_zero, mask_nil]; exact All2.mapR (R := OV z _) (g := some) (hd2.mono fun v d h => TV.mono gB0 h)⟩, ⟨[], 0, by walk_at "mm", .nil⟩⟩
  have hst : sl ≠ tl := hf2 _ (.head _)
  have hsz : sl ≠ z := hfz (sl, lstO us1 c1) (by walk_at "mm")
  have htz : tl ≠ z := hfz (tl, lstO us2 c2) (by walk_at "mm")
  have hsR : sl ≠ R := hfR (sl, lstO us1 c1) (by walk_at "mm")
  have htR : tl ≠ R := hfR (tl, lstO us2 c2) (by walk_at "mm")
  have hzR : z ≠ R := hfR (z, objO) (by walk_at "mm")
  have f1 : ∀ p ∈ ((Ld, Tk) : Ctx).1, p.1 ≠ sl := hf1
  have f2 : ∀ p ∈ ((Ld, Tk) : Ctx).1, p.1 ≠ tl := fun p hp => hf2 p (.tail _ hp)
  have f3 : ∀ p ∈ ((Ld, Tk) : Ctx).1, p.1 ≠ R := fun p hp => hfR p (by walk_at "mm")
  refine c_enm S17 (l := sl) (vs := us1) (n := c1) (by walk_at "mm") fun en I G3 s3 S3 g3 hI hen hne hfI => ?_
  refine it_enm S3 hen ?_
  have iI := (hfI (sl, lstO us1 c1) (by walk_at "mm")).1
  have ie := (hfI (sl, lstO us1 c1) (by walk_at "mm")).2
  have jI := (hfI (tl, lstO us2 c2) (by walk_at "mm")).1
  have je := (hfI (tl, lstO us2 c2) (by walk_at "mm")).2
  have kI := (hfI (z, objO) (by walk_at "mm")).1
  have ke := (hfI (z, objO) (by walk_at "mm")).2
  have rI := (hfI (R, lstO [] 0) (by walk_at "mm")).1
  have re := (hfI (R, lstO [] 0) (by walk_at "mm")).2
  have f4 : ∀ p ∈ ((Ld, Tk) : Ctx).1, p.1 ∉ [en, I] := fun p hp => by
    have := hfI p (gB0.a p hp)
    simp [this.1, this.2]
  have N0 : CdN sl tl z R ds es (fun y => if y = Str.ofString "result" then some (.ref R) else if y = Str.ofString "NULL" then some (.ref z) else if y = Str.ofString "m" then some (.int (us1.length : Int) tm) else if y = Str.ofString "n" then some (.int (us2.length : Int) tn) else if y = Str.ofString "s" then some (.ref sl) else if y = Str.ofString "t" then some (.ref tl) else none) :=
    ⟨rfl, rfl, ⟨tm, by rw [← zu1]; rfl⟩, ⟨tn, by rw [← zu2]; rfl⟩, rfl, rfl⟩
  refine ⟨ds.length, fun i s => ∃ m G old, St g' L' sB m G s ∧ CdN sl tl z R ds es m ∧ CdC (Ld, Tk) sl tl z R c1 c2 (ds.take i) ds (ds.take i) es (rowsA ds es i) G ∧ LI G I sl i ∧ (en, enmO I (i : Int) old) ∈ G.1, ⟨_, G3, .none, S3, N0.of rfl rfl rfl rfl rfl rfl, hC0.mono g3, hI, hen⟩, ?_, ?_⟩
  · rintro i s6 hi ⟨m6, G6, old, S6, N6, C6, hI6, he6⟩
    obtain ⟨vs6, hs6, hv6⟩ := C6.cS
    have hl6 := hv6.length
    rw [mask_length] at hl6
    have hlt : i < vs6.length := by lia
    refine nx_enm S6 he6 hI6 hne hs6 (List.getElem?_eq_getElem hlt) fun ta ti G7 s7 S7 g7 hI7 he7 hta => ?_
    have plE : ∀ a ∈ [en, I], ∃ o, (a, o) ∈ G6.1 ∧ plainO o := fun a ha => by
      rcases List.mem_cons.mp ha with rfl | ha
      · exact ⟨_, he6, enm_plain⟩
      · rw [List.mem_singleton.mp ha]; exact li_plain hI6
    have C7 := C6.keepB S6 plE f4 (by simp [iI, ie]) (by simp [jI, je]) (by simp [kI, ke]) (by simp [rI, re]) g7
    have hov := hv6.get i hlt (by rw [mask_length]; exact hi)
    have hel : (mask (ds.take i) ds)[i]'(by rw [mask_length]; exact hi) = if ds[i] ∈ ds.take i then none else some ds[i] := by
      have := mask_get (seen := ds.take i) hi
      rw [List.getElem?_eq_getElem (by rw [mask_length]; exact hi)] at this
      exact Option.some.inj this
    rw [hel] at hov
    have hov7 := hov.keepB S6 (fun a ha => let ⟨o, a1, a2⟩ := plE a ha; ⟨o, a1, a2.1⟩) g7
    have u1 := N6.es_
    have u2 := N6.et_
    obtain ⟨km, u3⟩ := N6.em_
    obtain ⟨kn, u4⟩ := N6.en_
    have u5 := N6.ez_
    have u6 := N6.er_
    have htk : ds.take (i + 1) = ds.take i ++ [ds[i]] := List.take_succ_eq_append_getElem hi
    have hgd : ds.getD i [] = ds[i] := by simp [hi]
    clear S6 S17 S3
    try with_reducible refine wpGen fun Qg6 ig6 => ?_
    repeat' (walk_at "go")
    rename_i s8 S8 s9 S9 s10 S10
    refine ov_is S10 C7.cz hov7 ?_
    by_cases hseen : ds[i] ∈ ds.take i
    · rw [if_pos hseen]
      try with_reducible refine wpGen fun Qg7 ig7 => ?_
      repeat' (walk_at "go")
      refine wpAny_Continue ?_
      have e1 : ∀ l, mask (ds.take (i + 1)) l = mask (ds.take i) l := fun l => by rw [htk]; exact mask_seen hseen
      have e3 : rowsA ds es (i + 1) = rowsA ds es i := by rw [rowsA_succ, hgd]; simp [hseen]
      exact ⟨.inr rfl, _, G7, _, S10, N6.of rfl rfl rfl rfl rfl rfl, ⟨C7.cg, C7.cz, by rw [e1]; exact C7.cS, by rw [e1]; exact C7.cT, by rw [e3]; exact C7.cR⟩, hI7, he7⟩
    · rw [if_neg hseen] at hov7 ⊢
      have te7 : TV true G7 vs6[i] ds[i] := hov7
      try with_reducible refine wpGen fun Qg8 ig8 => ?_
      repeat' (walk_at "go")
      rename_i tc s11 S11 s12 S12 s13 S13
      clear S7 S8 S9 S10 S11 S12
      obtain ⟨vs7, hs7, hv7⟩ := C7.cS
      refine wipe_rng (i := i) (ti := ti) (tm := km) (tc := tc) (u := vs6[i]) (e := ds[i]) am' S13 hs7 hv7 C7.cz te7 (by exact rfl) (by rw [mask_length]; exact u3) (by exact u1) (by exact rfl) (by exact u5) (by exact rfl) (by rw [mask_length]; lia) (by rw [mask_length]; lia)
        (mask_take (pre := [])) (by decide) (by decide) (by decide) (by decide) (by decide) (by decide) (by decide) fun m14 G14 s14 vs14 tc14 S14 e14 g14 hs14 hv14 k14 => ?_
      rw [mask_wipe, ← htk] at hv14
      rw [mask_count hseen] at k14
      have C14 := C7.setS S13 g14 f1 hst hsz hsR hs14 hv14
      have te14 := TV.keepB S13 (.cons hs7 lst_nt .nil) g14 te7
      have w1 : m14 (Str.ofString "s") = some (.ref sl) := (e14 _ (by decide) (by decide)).trans u1
      have w2 : m14 (Str.ofString "t") = some (.ref tl) := (e14 _ (by decide) (by decide)).trans u2
      have w3 : m14 (Str.ofString "m") = some (.int ((ds.length : Nat) : Int) km) := (e14 _ (by decide) (by decide)).trans u3
      have w4 : m14 (Str.ofString "n") = some (.int ((es.length : Nat) : Int) kn) := (e14 _ (by decide) (by decide)).trans u4
      have w5 : m14 (Str.ofString "NULL") = some (.ref z) := (e14 _ (by decide) (by decide)).trans u5
      have w6 : m14 (Str.ofString "result") = some (.ref R) := (e14 _ (by decide) (by decide)).trans u6
      have w7 : m14 (Str.ofString "elem") = some vs6[i] := (e14 _ (by decide) (by decide)).trans rfl
      have w8 : m14 (Str.ofString "cnt_t") = some (.int 0 tc) := (e14 _ (by decide) (by decide)).trans rfl
      have hI14 := hI7.keep g14 (by simpa using Ne.symm iI)
      have he14 := g14.a _ he7 (by simpa using Ne.symm ie)
      obtain ⟨vt14, ht14, hvt14⟩ := C14.cT
      try with_reducible refine wpGen fun Qg9 ig9 => ?_
      repeat' (walk_at "go")
      refine wipe_enm (tc := tc) (u := vs6[i]) (e := ds[i]) am' S14 ht14 hvt14 C14.cz te14 w2 w7 w5 w8 (by rw [mask_length]; lia) (by decide) (by decide) (by decide) (by decide) (by decide) (by decide) (by decide) (by decide) (by decide) (by decide) (by decide) (by decide)
        fun m15 G15 s15 vs15 tc15 S15 e15 g15 hs15 hv15 k15 => ?_
      rw [mask_wipe, ← htk] at hv15
      rw [mask_count hseen] at k15
      have C15 := C14.setT S14 g15 f2 hst htz htR hs15 hv15
      have te15 := TV.keepB S14 (.cons ht14 lst_nt .nil) g15 te14
      have y1 : m15 (Str.ofString "s") = some (.ref sl) := (e15 _ (by decide) (by decide) (by decide)).trans w1
      have y2 : m15 (Str.ofString "t") = some (.ref tl) := (e15 _ (by decide) (by decide) (by decide)).trans w2
      have y3 : m15 (Str.ofString "m") = some (.int ((ds.length : Nat) : Int) km) := (e15 _ (by decide) (by decide) (by decide)).trans w3
      have y4 : m15 (Str.ofString "n") = some (.int ((es.length : Nat) : Int) kn) := (e15 _ (by decide) (by decide) (by decide)).trans w4
      have y5 : m15 (Str.ofString "NULL") = some (.ref z) := (e15 _ (by decide) (by decide) (by decide)).trans w5
      have y6 : m15 (Str.ofString "result") = some (.ref R) := (e15 _ (by decide) (by decide) (by decide)).trans w6
      have y7 : m15 (Str.ofString "elem") = some vs6[i] := (e15 _ (by decide) (by decide) (by decide)).trans w7
      have y8 : m15 (Str.ofString "cnt_s") = some (.int ((ds.count ds[i] : Nat) : Int) tc14) := (e15 _ (by decide) (by decide) (by decide)).trans k14
      have hI15 := hI14.keep g15 (by simpa using Ne.symm jI)
      have he15 := g15.a _ he14 (by simpa using Ne.symm je)
      clear S13 S14 w1 w2 w3 w4 w5 w6 w7 w8 hs7 hv7 hs14 hv14 g14 g15 ht14 hvt14 u1 u2 u3 u4 u5 u6 e14 e15
      have N15 : CdN sl tl z R ds es m15 := ⟨y1, y2, ⟨km, y3⟩, ⟨kn, y4⟩, y5, y6⟩
      obtain ⟨ys15, c15, hR15, hm15⟩ := C15.cR
      have zy15 : ys15.length ≤ 1000 := by have := hm15.length; have := rowsA_length ds es i; lia
      try with_reducible refine wpGen fun Qg10 ig10 => ?_
      repeat' (walk_at "go")
      · rename_i hb
        have hne2 : ds.count ds[i] ≠ es.count ds[i] := fun e => by rw [e] at hb; simp at hb
        refine cCls am' ?_
        try with_reducible refine wpGen fun Qg11 ig11 => ?_
        repeat' (walk_at "go")
        refine ⟨⟨_, _, _, S15⟩, make_mm am' S15 fun G16 x dx s16 S16 g16 hfx hx hdx => ?_⟩
        have hR16 := g16.a _ hR15
        have C16 := C15.mono g16
        clear S15
        try with_reducible refine wpGen fun Qg12 ig12 => ?_
        repeat' (walk_at "go")
        rename_i s17 S17 G18 s18 S18 g18 hR18
        have e3 : rowsA ds es (i + 1) = rowsA ds es i ++ [(ds.count ds[i], es.count ds[i], ds[i])] := by rw [rowsA_succ, hgd]; simp [hseen, hne2]
        have plR : ∀ a ∈ [R], ∃ o, (a, o) ∈ G16.1 ∧ plainO o := fun a ha => by rw [List.mem_singleton.mp ha]; exact ⟨_, hR16, lst_plain⟩
        have hmv : MV G16 (.ref x) (ds.count ds[i], es.count ds[i], ds[i]) := ⟨x, dx, tc14, tc15, vs6[i], rfl, hx, hdx, te15.mono g16⟩
        refine ⟨.inl rfl, _, G18, _, S18, N15.of rfl rfl rfl rfl rfl rfl, ?_, (hI15.keep (GrB.of (l := []) g16) (by simp)).keep g18 (by simpa using Ne.symm rI), g18.a _ (g16.a _ he15) (by simpa using Ne.symm re)⟩
        refine C16.setR S17 g18 f3 hsR hzR htR hR18 ?_
        rw [e3]
        exact ((hm15.mono fun v r h => (h.mono g16).keepB S17 plR g18)).append (.cons (hmv.keepB S17 plR g18) .nil)
      · rename_i hb
        have hne2 : ds.count ds[i] = es.count ds[i] := Int.ofNat.inj (by simpa using hb)
        have e3 : rowsA ds es (i + 1) = rowsA ds es i := by rw [rowsA_succ, hgd]; simp [hne2]
        exact ⟨.inl rfl, m15, G15, _, S15, N15, ⟨C15.cg, C15.cz, C15.cS, C15.cT, by rw [e3]; exact C15.cR⟩, hI15, he15⟩
  · rintro s6 ⟨m6, G6, old, S6, N6, C6, hI6, he6⟩
    obtain ⟨vs6, hs6, hv6⟩ := C6.cS
    have hl6 := hv6.length
    rw [mask_length] at hl6
    refine nx_enm_end am'.hh S6 he6 hI6 hs6 (List.getElem?_eq_none (by lia)) fun G7 s7 S7 g7 => ⟨rfl, ?_⟩
    have plE : ∀ a ∈ [en, I], ∃ o, (a, o) ∈ G6.1 ∧ plainO o := fun a ha => by
      rcases List.mem_cons.mp ha with rfl | ha
      · exact ⟨_, he6, enm_plain⟩
      · rw [List.mem_singleton.mp ha]; exact li_plain hI6
    have C7 := C6.keepB S6 plE f4 (by simp [iI, ie]) (by simp [jI, je]) (by simp [kI, ke]) (by simp [rI, re]) g7
    have u1 := N6.es_
    have u2 := N6.et_
    obtain ⟨km, u3⟩ := N6.em_
    obtain ⟨kn, u4⟩ := N6.en_
    have u5 := N6.ez_
    have u6 := N6.er_
    clear S6 S17 S3 C6 hs6 hv6 hI6 he6 g7 hI hen hne hfI iI ie jI je kI ke rI re f4 plE hC0 g3
    rw [List.take_length] at C7
    try with_reducible refine wpGen fun Qg13 ig13 => ?_
    repeat' (walk_at "go")
    refine ForS ?_ (by intro _; exact rfl)
    skip
    repeat' (walk_at "go")
    obtain ⟨vt7, ht7, hvt7⟩ := C7.cT
    obtain ⟨vs7, hs7, hvs7⟩ := C7.cS
    obtain ⟨ys7, c7, hR7, hm7⟩ := C7.cR
    refine c_enm S7 ht7 fun en I G3 s3 S3 g3 hI hen hne hfI => ?_
    refine it_enm S3 hen ?_
    have iI := (hfI _ hs7).1
    have ie := (hfI _ hs7).2
    have jI := (hfI _ ht7).1
    have je := (hfI _ ht7).2
    have kI := (hfI _ C7.cz).1
    have ke := (hfI _ C7.cz).2
    have rI := (hfI _ hR7).1
    have re := (hfI _ hR7).2
    dsimp only at iI ie jI je kI ke rI re
    have f4 : ∀ p ∈ ((Ld, Tk) : Ctx).1, p.1 ∉ [en, I] := fun p hp => by
      have := hfI p (C7.cg.a p hp)
      simp [this.1, this.2]
    refine ⟨es.length, fun i s => ∃ m G old, St g' L' sB m G s ∧ CdN sl tl z R ds es m ∧ CdC (Ld, Tk) sl tl z R c1 c2 ds ds (ds ++ es.take i) es (rowsA ds es ds.length ++ rowsB ds es i) G ∧ LI G I tl i ∧ (en, enmO I (i : Int) old) ∈ G.1, ⟨m6, G3, .none, S3, N6, ?_, hI, hen⟩, ?_, ?_⟩
    · have C8 := C7.mono g3
      exact ⟨C8.cg, C8.cz, C8.cS, by rw [List.take_zero, List.append_nil]; exact C8.cT, by rw [show rowsB ds es 0 = [] from rfl, List.append_nil]; exact C8.cR⟩
    · clear S7 S3 C7 hs7 hvs7 ht7 hvt7 hR7 hm7 hI hen hfI g3 u1 u2 u3 u4 u5 u6 N6
      rintro i s6 hi ⟨m6, G6, old, S6, N6, C6, hI6, he6⟩
      obtain ⟨vs6, hs6, hv6⟩ := C6.cT
      have hl6 := hv6.length
      rw [mask_length] at hl6
      have hlt : i < vs6.length := by lia
      refine nx_enm S6 he6 hI6 hne hs6 (List.getElem?_eq_getElem hlt) fun ta ti G7 s7 S7 g7 hI7 he7 hta => ?_
      have plE : ∀ a ∈ [en, I], ∃ o, (a, o) ∈ G6.1 ∧ plainO o := fun a ha => by
        rcases List.mem_cons.mp ha with rfl | ha
        · exact ⟨_, he6, enm_plain⟩
        · rw [List.mem_singleton.mp ha]; exact li_plain hI6
      have C7 := C6.keepB S6 plE f4 (by simp [iI, ie]) (by simp [jI, je]) (by simp [kI, ke]) (by simp [rI, re]) g7
      have hov := hv6.get i hlt (by rw [mask_length]; exact hi)
      have hel : (mask (ds ++ es.take i) es)[i]'(by rw [mask_length]; exact hi) = if es[i] ∈ ds ++ es.take i then none else some es[i] := by
        have := mask_get (seen := ds ++ es.take i) hi
        rw [List.getElem?_eq_getElem (by rw [mask_length]; exact hi)] at this
        exact Option.some.inj this
      rw [hel] at hov
      have hov7 := hov.keepB S6 (fun a ha => let ⟨o, a1, a2⟩ := plE a ha; ⟨o, a1, a2.1⟩) g7
      have u1 := N6.es_
      have u2 := N6.et_
      obtain ⟨km, u3⟩ := N6.em_
      obtain ⟨kn, u4⟩ := N6.en_
      have u5 := N6.ez_
      have u6 := N6.er_
      have htk : ds ++ es.take (i + 1) = (ds ++ es.take i) ++ [es[i]] := by rw [List.take_succ_eq_append_getElem hi, List.append_assoc]
      have hgd : es.getD i [] = es[i] := by simp [hi]
      clear S6
      try with_reducible refine wpGen fun Qg15 ig15 => ?_
      repeat' (walk_at "go")
      rename_i s8 S8 s9 S9 s10 S10
      refine ov_is S10 C7.cz hov7 ?_
      by_cases hseen : es[i] ∈ ds ++ es.take i
      · rw [if_pos hseen]
        try with_reducible refine wpGen fun Qg16 ig16 => ?_
        repeat' (walk_at "go")
        refine wpAny_Continue ?_
        have e1 : ∀ l, mask (ds ++ es.take (i + 1)) l = mask (ds ++ es.take i) l := fun l => by rw [htk]; exact mask_seen hseen
        have e3 : rowsB ds es (i + 1) = rowsB ds es i := by rw [rowsB_succ, hgd, decide_eq_false (fun q => q hseen)]; simp
        exact ⟨.inr rfl, _, G7, _, S10, N6.of rfl rfl rfl rfl rfl rfl, ⟨C7.cg, C7.cz, C7.cS, by rw [e1]; exact C7.cT, by rw [e3]; exact C7.cR⟩, hI7, he7⟩
      · rw [if_neg hseen] at hov7 ⊢
        have te7 : TV true G7 vs6[i] es[i] := hov7
        try with_reducible refine wpGen fun Qg17 ig17 => ?_
        repeat' (walk_at "go")
        rename_i tc s11 S11 s12 S12
        clear S7 S8 S9 S10 S11
        obtain ⟨vs7, hs7, hv7⟩ := C7.cT
        refine wipe_rng (i := i) (ti := ti) (tm := kn) (tc := tc) (u := vs6[i]) (e := es[i]) am' S12 hs7 hv7 C7.cz te7 (by exact rfl) (by rw [mask_length]; exact u4) (by exact u2) (by exact rfl) (by exact u5) (by exact rfl) (by rw [mask_length]; lia) (by rw [mask_length]; lia)
          mask_take (by decide) (by decide) (by decide) (by decide) (by decide) (by decide) (by decide) fun m14 G14 s14 vs14 tc14 S14 e14 g14 hs14 hv14 k14 => ?_
        rw [mask_wipe, ← htk] at hv14
        rw [mask_count hseen] at k14
        have C14 := C7.setT S12 g14 f2 hst htz htR hs14 hv14
        have te14 := TV.keepB S12 (.cons hs7 lst_nt .nil) g14 te7
        have w1 : m14 (Str.ofString "s") = some (.ref sl) := (e14 _ (by decide) (by decide)).trans u1
        have w2 : m14 (Str.ofString "t") = some (.ref tl) := (e14 _ (by decide) (by decide)).trans u2
        have w3 : m14 (Str.ofString "m") = some (.int ((ds.length : Nat) : Int) km) := (e14 _ (by decide) (by decide)).trans u3
        have w4 : m14 (Str.ofString "n") = some (.int ((es.length : Nat) : Int) kn) := (e14 _ (by decide) (by decide)).trans u4
        have w5 : m14 (Str.ofString "NULL") = some (.ref z) := (e14 _ (by decide) (by decide)).trans u5
        have w6 : m14 (Str.ofString "result") = some (.ref R) := (e14 _ (by decide) (by decide)).trans u6
        have w7 : m14 (Str.ofString "elem") = some vs6[i] := (e14 _ (by decide) (by decide)).trans rfl
        have hI14 := hI7.keep g14 (by simpa using Ne.symm jI)
        have he14 := g14.a _ he7 (by simpa using Ne.symm je)
        clear S12 hs7 hv7 hs14 hv14 g14 u1 u2 u3 u4 u5 u6 e14
        have N14 : CdN sl tl z R ds es m14 := ⟨w1, w2, ⟨km, w3⟩, ⟨kn, w4⟩, w5, w6⟩
        obtain ⟨ys14, c14, hR14, hm14⟩ := C14.cR
        have zy14 : ys14.length ≤ 1000 := by
          have h1 := hm14.length
          have h2 := rowsA_length ds es ds.length
          have h3 := rowsB_length ds es i
          rw [List.length_append] at h1
          lia
        try with_reducible refine wpGen fun Qg18 ig18 => ?_
        repeat' (walk_at "go")
        refine cCls am' ?_
        try with_reducible refine wpGen fun Qg19 ig19 => ?_
        repeat' (walk_at "go")
        rename_i t15 s15 S15
        refine ⟨⟨_, _, _, S15⟩, make_mm am' S15 fun G16 x dx s16 S16 g16 hfx hx hdx => ?_⟩
        have hR16 := g16.a _ hR14
        have C16 := C14.mono g16
        clear S15 S14
        try with_reducible refine wpGen fun Qg20 ig20 => ?_
        repeat' (walk_at "go")
        rename_i s17 S17 G18 s18 S18 g18 hR18
        have e3 : rowsB ds es (i + 1) = rowsB ds es i ++ [(0, es.count es[i], es[i])] := by rw [rowsB_succ, hgd, decide_eq_true hseen]; simp
        have plR : ∀ a ∈ [R], ∃ o, (a, o) ∈ G16.1 ∧ plainO o := fun a ha => by rw [List.mem_singleton.mp ha]; exact ⟨_, hR16, lst_plain⟩
        have hmv : MV G16 (.ref x) (0, es.count es[i], es[i]) := ⟨x, dx, t15, tc14, vs6[i], rfl, hx, hdx, te14.mono g16⟩
        refine ⟨.inl rfl, _, G18, _, S18, N14.of rfl rfl rfl rfl rfl rfl, ?_, (hI14.keep (GrB.of (l := []) g16) (by simp)).keep g18 (by simpa using Ne.symm rI), g18.a _ (g16.a _ he14) (by simpa using Ne.symm re)⟩
        refine C16.setR S17 g18 f3 hsR hzR htR hR18 ?_
        rw [e3, ← List.append_assoc]
        exact ((hm14.mono fun v r h => (h.mono g16).keepB S17 plR g18)).append (.cons (hmv.keepB S17 plR g18) .nil)
    · clear S7 S3 C7 hs7 hvs7 ht7 hvt7 hR7 hm7 hI hen hfI g3 u1 u2 u3 u4 u5 u6 N6
      rintro s6 ⟨m6, G6, old, S6, N6, C6, hI6, he6⟩
      obtain ⟨vs6, hs6, hv6⟩ := C6.cT
      have hl6 := hv6.length
      rw [mask_length] at hl6
      refine nx_enm_end am'.hh S6 he6 hI6 hs6 (List.getElem?_eq_none (by lia)) fun G7 s7 S7 g7 => ⟨rfl, ?_⟩
      have plE : ∀ a ∈ [en, I], ∃ o, (a, o) ∈ G6.1 ∧ plainO o := fun a ha => by
        rcases List.mem_cons.mp ha with rfl | ha
        · exact ⟨_, he6, enm_plain⟩
        · rw [List.mem_singleton.mp ha]; exact li_plain hI6
      have C7 := C6.keepB S6 plE f4 (by simp [iI, ie]) (by simp [jI, je]) (by simp [kI, ke]) (by simp [rI, re]) g7
      have u6 := N6.er_
      clear S6
      try with_reducible refine wpGen fun Qg21 ig21 => ?_
      repeat' (walk_at "go")
      obtain ⟨ys, c, hR8, hm8⟩ := C7.cR
      exact ⟨m6, G7, S7, C7.cg, R, ys, c, rfl, f3, hR8, hm8⟩
end

-- P4
section

def dueR (ps qs : List P3) (i : Nat) : List Row := ((List.range i).filter fun k => decide (((ps ++ qs).map ptP).idxOf (ptP ((ps ++ qs).getD k d0)) = k) && decide (((ps.count ((ps ++ qs).getD k d0) : Nat) : Int) - ((qs.count ((ps ++ qs).getD k d0) : Nat) : Int) ≠ 0)).map
  fun k => (ps.count ((ps ++ qs).getD k d0), qs.count ((ps ++ qs).getD k d0), hlsP ((ps ++ qs).getD k d0))
theorem dueR_succ (ps qs : List P3) (i : Nat) : dueR ps qs (i + 1) = dueR ps qs i ++ if decide (((ps ++ qs).map ptP).idxOf (ptP ((ps ++ qs).getD i d0)) = i) && decide (((ps.count ((ps ++ qs).getD i d0) : Nat) : Int) - ((qs.count ((ps ++ qs).getD i d0) : Nat) : Int) ≠ 0) then
    [(ps.count ((ps ++ qs).getD i d0), qs.count ((ps ++ qs).getD i d0), hlsP ((ps ++ qs).getD i d0))] else [] := by
  unfold dueR
  rw [List.range_succ, List.filter_append, List.map_append]
  congr 1
  rw [List.filter_cons]
  split <;> rfl
theorem dueR_length (ps qs : List P3) (i : Nat) : (dueR ps qs i).length ≤ i := by
  unfold dueR; rw [List.length_map]; refine Nat.le_trans (List.length_filter_le _ _) ?_; simp

theorem idxOf_first {α : Type} [BEq α] [LawfulBEq α] {l : List α} {k : Nat} (h : k < l.length) : l.idxOf l[k] = k ↔ l[k] ∉ l.take k := by
  induction l generalizing k with
  | nil => simp at h
  | cons x r ih =>
    cases k with
    | zero => simp
    | succ k =>
      have h' : k < r.length := by simpa using h
      rw [List.getElem_cons_succ, List.idxOf_cons, List.take_succ_cons]
      by_cases e : x = r[k]
      · rw [show (x == r[k]) = true from by simp [e]]
        simp [e.symm]
      · rw [show (x == r[k]) = false from by simp [e]]
        have := ih h'
        simp only [Bool.cond_false, Nat.add_right_cancel_iff, this, List.mem_cons, not_or]
        exact ⟨fun q => ⟨fun q2 => e q2.symm, q⟩, fun q => q.2⟩
theorem idxOf_pt (l : List P3) (p : P3) : (l.map ptP).idxOf (ptP p) = l.idxOf p := by
  induction l with
  | nil => rfl
  | cons x r ih =>
    rw [List.map_cons, List.idxOf_cons, List.idxOf_cons, ih]
    by_cases e : x = p
    · subst e; simp
    · have : ptP x ≠ ptP p := fun h => e (ptP_inj h)
      rw [show (x == p) = false from by simp [e], show (ptP x == ptP p) = false from by simp only [beq_eq_false_iff_ne]; exact this]

theorem hls_mem {l : List P3} {p : P3} (kl : ∀ q ∈ l, Pk q) (kp : Pk p) : hlsP p ∈ l.map hlsP ↔ p ∈ l := by
  rw [List.mem_map]
  constructor
  · rintro ⟨q, hq, e⟩
    rw [← hlsP_inj (kl q hq) kp e]; exact hq
  · exact fun h => ⟨p, h, rfl⟩
theorem hls_count {l : List P3} {p : P3} (kl : ∀ q ∈ l, Pk q) (kp : Pk p) : (l.map hlsP).count (hlsP p) = l.count p := count_inj p l fun q hq h => hlsP_inj (kl q hq) kp h

theorem rows_due {ps qs : List P3} (kp : ∀ p ∈ ps, Pk p) (kq : ∀ p ∈ qs, Pk p) :
    rowsA (ps.map hlsP) (qs.map hlsP) ps.length ++ rowsB (ps.map hlsP) (qs.map hlsP) qs.length = dueR ps qs (ps.length + qs.length) := by
  unfold dueR
  rw [List.range_add, List.filter_append, List.map_append]
  congr 1
  · unfold rowsA
    have main : ∀ k ∈ List.range ps.length, (decide ((ps.map hlsP).getD k [] ∉ (ps.map hlsP).take k) && decide ((ps.map hlsP).count ((ps.map hlsP).getD k []) ≠ (qs.map hlsP).count ((ps.map hlsP).getD k []))) =
        (decide (((ps ++ qs).map ptP).idxOf (ptP ((ps ++ qs).getD k d0)) = k) && decide (((ps.count ((ps ++ qs).getD k d0) : Nat) : Int) - ((qs.count ((ps ++ qs).getD k d0) : Nat) : Int) ≠ 0)) ∧
        ((ps.map hlsP).count ((ps.map hlsP).getD k []), (qs.map hlsP).count ((ps.map hlsP).getD k []), (ps.map hlsP).getD k []) = (ps.count ((ps ++ qs).getD k d0), qs.count ((ps ++ qs).getD k d0), hlsP ((ps ++ qs).getD k d0)) := by
      intro k hk
      have hk' := List.mem_range.mp hk
      have e1 : (ps.map hlsP).getD k [] = hlsP ps[k] := by simp [hk']
      have e2 : (ps ++ qs).getD k d0 = ps[k] := by simp [hk', List.getElem?_append_left]
      have kk := kp _ (List.getElem_mem hk')
      have e3 : (ps ++ qs)[k]'(by rw [List.length_append]; lia) = ps[k] := List.getElem_append_left hk'
      have i1 := idxOf_first (l := ps ++ qs) (k := k) (by rw [List.length_append]; lia)
      rw [e3, List.take_append_of_le_length (by lia)] at i1
      rw [e1, e2, idxOf_pt, hls_count kp kk, hls_count kq kk, ← List.map_take]
      refine ⟨?_, rfl⟩
      congr 1
      · rw [decide_eq_decide, i1, hls_mem (fun q hq => kp q (List.mem_of_mem_take hq)) kk]
      · rw [decide_eq_decide]; lia
    rw [List.filter_congr fun k hk => (main k hk).1]
    exact List.map_congr_left fun k hk => (main k (List.mem_filter.mp hk).1).2
  · unfold rowsB
    rw [List.filter_map, List.map_map]
    have main : ∀ k ∈ List.range qs.length, decide ((qs.map hlsP).getD k [] ∉ ps.map hlsP ++ (qs.map hlsP).take k) =
        ((fun k => decide (((ps ++ qs).map ptP).idxOf (ptP ((ps ++ qs).getD k d0)) = k) && decide (((ps.count ((ps ++ qs).getD k d0) : Nat) : Int) - ((qs.count ((ps ++ qs).getD k d0) : Nat) : Int) ≠ 0)) ∘ fun x => ps.length + x) k := by
      intro k hk
      have hk' := List.mem_range.mp hk
      have e1 : (qs.map hlsP).getD k [] = hlsP qs[k] := by simp [hk']
      have e2 : (ps ++ qs).getD (ps.length + k) d0 = qs[k] := by simp [hk', List.getElem?_append_right]
      have kk := kq _ (List.getElem_mem hk')
      have e3 : (ps ++ qs)[ps.length + k]'(by rw [List.length_append]; lia) = qs[k] := by rw [List.getElem_append_right (by lia)]; simp
      have i1 := idxOf_first (l := ps ++ qs) (k := ps.length + k) (by rw [List.length_append]; lia)
      rw [e3, List.take_append, List.take_of_length_le (by lia), Nat.add_sub_cancel_left] at i1
      show _ = (decide (((ps ++ qs).map ptP).idxOf (ptP ((ps ++ qs).getD (ps.length + k) d0)) = ps.length + k) && decide (((ps.count ((ps ++ qs).getD (ps.length + k) d0) : Nat) : Int) - ((qs.count ((ps ++ qs).getD (ps.length + k) d0) : Nat) : Int) ≠ 0))
      rw [e1, e2, idxOf_pt, ← List.map_take, ← List.map_append, Bool.eq_iff_iff]
      simp only [Bool.and_eq_true, decide_eq_true_eq, i1, hls_mem (l := ps ++ qs.take k) (fun q hq => (List.mem_append.mp hq).elim (kp q) fun h => kq q (List.mem_of_mem_take h)) kk]
      constructor
      · intro h
        refine ⟨h, ?_⟩
        have c1 : ps.count qs[k] = 0 := List.count_eq_zero.mpr fun q => h (List.mem_append.mpr (.inl q))
        have c2 : 0 < qs.count qs[k] := List.count_pos_iff.mpr (List.getElem_mem hk')
        lia
      · exact fun h => h.1
    rw [List.filter_congr main]
    refine List.map_congr_left fun k hk => ?_
    obtain ⟨hk1, hk2⟩ := List.mem_filter.mp hk
    have hk' := List.mem_range.mp hk1
    have e1 : (qs.map hlsP).getD k [] = hlsP qs[k] := by simp [hk']
    have e2 : (ps ++ qs).getD (ps.length + k) d0 = qs[k] := by simp [hk', List.getElem?_append_right]
    have kk := kq _ (List.getElem_mem hk')
    rw [← main k hk1] at hk2
    rw [e1, ← List.map_take, ← List.map_append] at hk2
    have hn := of_decide_eq_true hk2
    rw [hls_mem (l := ps ++ qs.take k) (fun q hq => (List.mem_append.mp hq).elim (kp q) fun h => kq q (List.mem_of_mem_take h)) kk] at hn
    have c1 : ps.count qs[k] = 0 := List.count_eq_zero.mpr fun q => hn (List.mem_append.mpr (.inl q))
    show (0, (qs.map hlsP).count ((qs.map hlsP).getD k []), (qs.map hlsP).getD k []) = (ps.count ((ps ++ qs).getD (ps.length + k) d0), qs.count ((ps ++ qs).getD (ps.length + k) d0), hlsP ((ps ++ qs).getD (ps.length + k) d0))
    rw [e1, e2, hls_count kq kk, c1]
end

-- W1
section

def DV (G : Ctx) (v : Value) (r : Row) : Prop := ∃ x t t' u, v = .ref x ∧ (x, tupO [.int (r.1 : Int) t, .int (r.2.1 : Int) t', u]) ∈ G.1 ∧ TV true G u r.2.2
theorem DV.mono {G G' : Ctx} (g : Gr G G') {v : Value} {r : Row} (h : DV G v r) : DV G' v r := by
  obtain ⟨x, t, t', u, e, h1, h3⟩ := h
  exact ⟨x, t, t', u, e, g.a _ h1, TV.mono g h3⟩
theorem DV.keepB {h₀ : Heap} {L : Addr} {s₀ s : Shared} {m : NMap} {G G' : Ctx} {l : List Addr} (S : St h₀ L s₀ m G s) (hl : NT G l) (g : GrB l G G') {v : Value} {r : Row} (h : DV G v r) : DV G' v r := by
  obtain ⟨x, t, t', u, e, h1, h3⟩ := h
  refine ⟨x, t, t', u, e, g.a _ h1 fun hm => ?_, TV.keepB S hl g h3⟩
  obtain ⟨o, a1, a2⟩ := hl _ hm
  exact a2 _ (S.fn a1 h1)
section
variable {prog : Program} {w : World} {A : Around} {E : Value → Shared → Prop} {h₀ : Heap} {L : Addr} {s₀ s : Shared} {m : NMap} {G : Ctx}
theorem eq_dv (S : St h₀ L s₀ m G s) (nb : NoneBooked s.heap) (hu : A.units + 1 < cLine) {v u : Value} {r : Row} (hv : DV G v r) (hw : DV G u r) : EqAt A s v u true := by
  obtain ⟨x, t, t', a, rfl, hx, ha⟩ := hv
  obtain ⟨y, k, k', b, rfl, hy, hb⟩ := hw
  by_cases hxy : x = y
  · subst hxy; exact EqAt.same _
  · refine EqAt.of_refs hxy ?_
    have rr := RcAt.tuples (A := A) (e := fun _ => true) (S.isTuple hx) (S.isTuple hy) (by lia) (fun j h1 h2 => by
      have h1' : j < 3 := h1
      match j, h1' with
      | 0, _ => have := EqAt.int_int (A := A.in1) (s := s) (r.1 : Int) t (r.1 : Int) k; rw [show (((r.1 : Int)) == (r.1 : Int)) = true from by simp] at this; exact this
      | 1, _ => have := EqAt.int_int (A := A.in1) (s := s) (r.2.1 : Int) t' (r.2.1 : Int) k'; rw [show (((r.2.1 : Int)) == (r.2.1 : Int)) = true from by simp] at this; exact this
      | 2, _ => have := eq_tv (A := A.in1) S nb (by show A.units + 1 < cLine; exact hu) ha hb; rw [decide_eq_true rfl] at this; exact this)
    exact fun prog w E Q hq => rr prog w E Q (by simpa [show (List.range 3) = [0, 1, 2] from rfl] using hq)
theorem eq_ldv {a b : Addr} {us vs : List Value} {n k : Nat} {rs : List Row} {Q : Value → Shared → Prop} (S : St h₀ L s₀ m G s) (nb : NoneBooked s.heap) (hu : A.units + 2 < cLine) (hl : (a, lstO us n) ∈ G.1) (hd : All2 (DV G) us rs) (hl' : (b, lstO vs k) ∈ G.1) (he : All2 (DV G) vs rs)
    (h : Q (.bool true) s) : wpAny (model prog w) A (compareOp .Eq (.ref a) (.ref b)) Q E s := by
  have ld := hd.length
  have le := he.length
  have r := RcAt.lists (A := A) (e := fun _ => true) (S.isList hl) (S.isList hl') (by simp; lia) (by lia) (fun j h1 h2 => by
    have h1' : j < rs.length := by rw [← ld]; simpa using h1
    exact eq_dv (A := A.in1) S nb (by show A.units + 1 + 1 < cLine; lia) (hd.get j (by simpa using h1) h1') (he.get j (by simpa using h2) h1'))
  have e : ((List.range us.toArray.size).all fun _ => true) = true := by simp
  rw [e] at r
  exact r _ _ _ _ h
end

set_option maxHeartbeats 2000000 in
theorem sp_hlsh {w : World} {d : Nat} {G : Ctx} {f1 f2 p1 p2 : Addr} {us1 us2 vs1 vs2 : List Value} {a1 a2 b1 b2 : Nat} {ps qs : List P3}
    (hf1 : (f1, lstO us1 a1) ∈ G.1) (hu1 : All2 (TV true G) us1 (ps.map colP)) (hf2 : (f2, lstO us2 a2) ∈ G.1) (hu2 : All2 (TV true G) us2 (qs.map colP))
    (hp1 : (p1, lstO vs1 b1) ∈ G.1) (hv1 : All2 (TV false G) vs1 (ps.map ptP)) (hp2 : (p2, lstO vs2 b2) ∈ G.1) (hv2 : All2 (TV false G) vs2 (qs.map ptP))
    (kp : ∀ p ∈ ps, Pk p) (kq : ∀ p ∈ qs, Pk p) (zp : ps.length ≤ 40) (zq : qs.length ≤ 40) :
    Sp w 243 [.ref f1, .ref f2, .ref p1, .ref p2] (d + 5) G (fun G' v => Gr G G' ∧ v = .bool true) := by
  obtain ⟨Ld, Tk⟩ := G
  intro A env h₀ L s₀ m sB Q E am S hQ
  refine' enterL (binds := [(Str.ofString "first", .ref f1), (Str.ofString "second", .ref f2), (Str.ofString "points", .ref p1), (Str.ofString "others", .ref p2)]) am S ?ho ?hc ?hb ?hl ?c1 ?c2 ?c3 ?c4 _ ?_ hQ
  case ho => k_is
  case hc => k_is
  case hb => exact BindsTo.of_eq rfl
  case hl => exact locs rfl
  case c1 => exact rfl
  case c2 => exact rfl
  case c3 => exact rfl
  case c4 => decide
  intro g' L' s₁ env' A' m' am' S₁
  clear S hQ am
  dsimp only at hf1 hf2 hp1 hp2
  try with_reducible refine wpGen fun Qg1 ig1 => ?_
  repeat' (walk_at "go")
  refine ⟨⟨_, _, _, S₁⟩, ?_⟩
  refine sp_lhls (d := d) hf1 hu1 kp (by lia) _ _ _ _ _ _ _ _ _ (am'.less' (by lia)) S₁ fun G2 v s2 S2 h => ?_
  obtain ⟨g2, l2, rfl, hfr2, mv2, mn2, hm2, hd2⟩ := h
  clear S₁
  obtain ⟨Ld2, Tk2⟩ := G2
  dsimp only at hm2
  try with_reducible refine wpGen fun Qg2 ig2 => ?_
  repeat' (walk_at "go")
  refine ⟨⟨_, _, _, S2⟩, ?_⟩
  refine sp_lhls (d := d) (by exact g2.a _ hf2) (hu2.mono fun v p h => h.mono g2) kq (by lia) _ _ _ _ _ _ _ _ _ (am'.less' (by lia)) S2 fun G4 v s4 S4 h => ?_
  obtain ⟨g4, l4, rfl, hfr4, mv4, mn4, hm4, hd4⟩ := h
  have q2 := g4.a _ hm2
  have w2 := hd2.mono fun v p h => TV.mono g4 h
  have gI4 := g2.trans g4
  clear S2
  obtain ⟨Ld4, Tk4⟩ := G4
  dsimp only at hm4 q2
  try with_reducible refine wpGen fun Qg3 ig3 => ?_
  repeat' (walk_at "go")
  refine ⟨⟨_, _, _, S4⟩, ?_⟩
  refine sp_cdiff (d := d) (by exact q2) w2 (by exact hm4) hd4 (by rw [List.length_map]; lia) (by rw [List.length_map]; lia) _ _ _ _ _ _ _ _ _ am' S4 fun G5 v s5 S5 h => ?_
  obtain ⟨g5, lr, ysr, nr, rfl, hfr5, hlr, hmr⟩ := h
  rw [List.length_map, List.length_map, rows_due kp kq] at hmr
  have gI5 := gI4.trans g5
  clear S4
  obtain ⟨Ld5, Tk5⟩ := G5
  dsimp only at hlr
  try with_reducible refine wpGen fun Qg4 ig4 => ?_
  repeat' (walk_at "go")
  rename_i s6 S6 D s7 S7 hfD s8 S8
  clear S5 S6 S7
  refine ForS ?_ (by intro _; exact rfl)
  skip
  repeat' (walk_at "go")
  have zv1 : vs1.length = ps.length := by rw [hv1.length, List.length_map]
  have zv2 : vs2.length = qs.length := by rw [hv2.length, List.length_map]
  have hp15 := gI5.a _ hp1
  have hp25 := gI5.a _ hp2
  dsimp only at hp15 hp25
  refine c_cat S8 (by walk_at "mm") (by walk_at "mm") (by lia) fun P s9 S9 hfP => ?_
  try with_reducible refine wpGen fun Qg6 ig6 => ?_
  repeat' (walk_at "go")
  refine c_enm S9 (l := P) (vs := vs1 ++ vs2) (n := 0) (.head _) fun en I G10 s10 S10 g10 hI hen hne hfI => ?_
  refine it_enm S10 hen ?_
  have hPD : P ≠ D := fun e => hfP (D, lstO [] 0) (.head _) e.symm
  have iP := (hfI (P, lstO (vs1 ++ vs2) 0) (.head _))
  have iD := (hfI (D, lstO [] 0) (.tail _ (.head _)))
  dsimp only at iP iD
  have f5 : ∀ q ∈ ((Ld5, Tk5) : Ctx).1, q.1 ∉ [en, I] := fun q hq => by
    have := hfI q (.tail _ (.tail _ hq))
    simp [this.1, this.2]
  have fD : ∀ q ∈ ((Ld5, Tk5) : Ctx).1, q.1 ≠ D := hfD
  have gE : Gr ((Ld5, Tk5) : Ctx) G10 := ⟨fun q hq => g10.a _ (.tail _ (.tail _ hq)), g10.b⟩
  have hlen : (vs1 ++ vs2).length = ps.length + qs.length := by rw [List.length_append]; lia
  have hv5 : All2 (TV false ((Ld5, Tk5) : Ctx)) (vs1 ++ vs2) ((ps ++ qs).map ptP) := by
    rw [List.map_append]
    exact (hv1.mono fun v p h => TV.mono gI5 h).append (hv2.mono fun v p h => TV.mono gI5 h)
  have kpq : ∀ p ∈ ps ++ qs, Pk p := fun p hp => (List.mem_append.mp hp).elim (kp p) (kq p)
  refine ⟨ps.length + qs.length, fun i s => ∃ m G old ys c, St g' L' sB m G s ∧ m (Str.ofString "points") = some (.ref p1) ∧ m (Str.ofString "others") = some (.ref p2) ∧ m (Str.ofString "rows") = some (.ref lr) ∧ m (Str.ofString "due") = some (.ref D) ∧ Gr ((Ld5, Tk5) : Ctx) G ∧ LI G I P i ∧ (en, enmO I (i : Int) old) ∈ G.1 ∧
    (P, lstO (vs1 ++ vs2) 0) ∈ G.1 ∧ (D, lstO ys c) ∈ G.1 ∧ All2 (DV G) ys (dueR ps qs i), ⟨_, G10, .none, [], 0, S10, rfl, rfl, rfl, rfl, gE, hI, hen, g10.a _ (.head _), g10.a _ (.tail _ (.head _)), .nil⟩, ?_, ?_⟩
  · clear S8 S9 S10 hI hen g10 gE
    rintro i s11 hi ⟨m11, G11, old, ys, c, S11, e1, e2, e3, e4, g11, hI11, he11, hP11, hD11, ha11⟩
    have hi' : i < (ps ++ qs).length := by rw [List.length_append]; exact hi
    have hiv : i < (vs1 ++ vs2).length := by rw [hlen]; exact hi
    have hgd : (ps ++ qs).getD i d0 = (ps ++ qs)[i] := by rw [List.getD_eq_getElem?_getD, List.getElem?_eq_getElem hi']; rfl
    refine nx_enm S11 he11 hI11 hne hP11 (List.getElem?_eq_getElem hiv) fun ta ti G12 s12 S12 g12 hI12 he12 hta => ?_
    have ntE : NT G11 [en, I] := .cons he11 enm_nt (.cons hI11.nt.choose_spec.1 hI11.nt.choose_spec.2 .nil)
    have g512 : Gr ((Ld5, Tk5) : Ctx) G12 := ⟨fun q hq => g12.a _ (g11.a q hq) (f5 q hq), fun q hq => g12.b _ (g11.b q hq)⟩
    have hP12 := g12.a _ hP11 (by simp [iP.1, iP.2])
    have hD12 := g12.a _ hD11 (by simp [iD.1, iD.2])
    have ha12 := ha11.mono fun v r h => DV.keepB S11 ntE g12 h
    have tx : TV false ((Ld5, Tk5) : Ctx) (vs1 ++ vs2)[i] (ptP (ps ++ qs)[i]) := by
      have := hv5.get i hiv (by rw [List.length_map]; exact hi')
      rwa [List.getElem_map] at this
    generalize hv0 : (vs1 ++ vs2)[i] = v0 at tx he12 hta
    generalize hp0 : (ps ++ qs)[i] = p0 at tx hgd
    have kp0 : Pk p0 := hp0 ▸ kpq _ (List.getElem_mem hi')
    have hmem : p0 ∈ ps ++ qs := hp0 ▸ List.getElem_mem hi'
    have tx12 := tx.mono g512
    have q1 := g512.a _ hp15
    have q2' := g512.a _ hp25
    clear S11 hI11 he11 hP11 hD11 ha11 g11 g12 ntE
    obtain ⟨Ld12, Tk12⟩ := G12
    dsimp only at q1 q2' hP12 hD12 hta
    try with_reducible refine wpGen fun Qg7 ig7 => ?_
    repeat' (walk_at "go")
    refine c_cat (by with_reducible assumption) (by walk_at "mm") (by walk_at "mm") (by lia) fun P2 s13 S13 hfP2 => ?_
    have g513 : Gr ((Ld5, Tk5) : Ctx) ((P2, lstO (vs1 ++ vs2) 0) :: Ld12, Tk12) := g512.trans (by walk_at "gg")
    try with_reducible refine wpGen fun Qg8 ig8 => ?_
    repeat' (walk_at "go")
    refine index_tv S13 (am'.nbAt S13) am'.units1 (.head _) (hv5.mono fun v p h => TV.mono g513 h) (tx.mono g513) (List.mem_map_of_mem hmem) (by rw [List.length_map, List.length_append]; lia) fun t14 s14 S14 => ?_
    try with_reducible refine wpGen fun Qg9 ig9 => ?_
    repeat' (walk_at "go")
    · rename_i hb
      have h1 : List.idxOf (ptP p0) ((ps ++ qs).map ptP) = i := by have := eq_of_beq hb; lia
      refine ⟨⟨_, _, _, S14⟩, ?_⟩
      refine sp_beyond (d := d) (by walk_at "mm") (hv1.mono fun v p h => (h.mono gI5).mono g513) (by walk_at "mm") (hv2.mono fun v p h => (h.mono gI5).mono g513) (tx.mono g513) _ _ _ _ _ _ _ _ _ (am'.less' (by lia)) S14 fun G15 v s15 S15 h => ?_
      obtain ⟨g15, t15, rfl⟩ := h
      rw [count_pt, count_pt]
      have g1215 : Gr ((Ld12, Tk12) : Ctx) G15 := Gr.trans (by walk_at "gg") g15
      have g515 := g513.trans g15
      have r1 := g1215.a _ q1
      have r2 := g1215.a _ q2'
      have rD := g1215.a _ hD12
      have rP := g1215.a _ hP12
      have rI := hI12.keep (GrB.of (l := []) g1215) (by simp)
      have rE := g1215.a _ he12
      have w1 := hv1.mono fun v p h => TV.mono (gI5.trans g515) h
      have w2 := hv2.mono fun v p h => TV.mono (gI5.trans g515) h
      have wx := tx.mono g515
      have wa := ha12.mono fun v r h => DV.mono g1215 h
      clear S14 S13
      obtain ⟨Ld15, Tk15⟩ := G15
      dsimp only at r1 r2 rD rP rE
      have hys : ys.length ≤ 1000 := by have := wa.length; have := dueR_length ps qs i; lia
      try with_reducible refine wpGen fun Qg10 ig10 => ?_
      repeat' (walk_at "go")
      · rename_i tq sq Sq hb2 tc1 sc1 Sc1 tc2 sc2 Sc2
        refine ⟨⟨_, _, _, Sc2⟩, ?_⟩
        refine sp_hdue (d := d) wx kp0 _ _ _ _ _ _ _ _ _ (am'.less' (by lia)) Sc2 fun G16 v s16 S16 h => ?_
        obtain ⟨g16, tv⟩ := h
        replace rD := g16.a _ rD
        replace rP := g16.a _ rP
        replace rE := g16.a _ rE
        replace rI := rI.keep (GrB.of (l := []) g16) (by simp)
        replace wa := wa.mono fun v r h => DV.mono g16 h
        replace g515 := g515.trans g16
        clear Sq Sc1 Sc2 S15 S12 g513 g512 g1215 g15 q1 q2' hP12 hD12 he12 hI12 ha12 tx12 wx w1 w2 r1 r2 hta
        obtain ⟨Ld16, Tk16⟩ := G16
        dsimp only at rD rP rE
        try with_reducible refine wpGen fun Qg11 ig11 => ?_
        repeat' (walk_at "go")
        rename_i T17 s17 S17 hf17 G18 s18 S18 g18 hD18
        have ntD : NT (((T17, tupO [.int ((List.count (ptP p0) (ps.map ptP) : Nat) : Int) tc1, .int ((List.count (ptP p0) (qs.map ptP) : Nat) : Int) tc2, v]) :: Ld16, Tk16) : Ctx) [D] := .cons (.tail _ rD) lst_nt .nil
        have e5 : dueR ps qs (i + 1) = dueR ps qs i ++ [(ps.count p0, qs.count p0, hlsP p0)] := by
          have hn : ((ps.count p0 : Nat) : Int) - ((qs.count p0 : Nat) : Int) ≠ 0 := by simpa using hb2
          rw [dueR_succ, hgd, decide_eq_true h1, decide_eq_true hn]; rfl
        have gx : Gr ((Ld16, Tk16) : Ctx) ((T17, tupO [.int ((List.count (ptP p0) (ps.map ptP) : Nat) : Int) tc1, .int ((List.count (ptP p0) (qs.map ptP) : Nat) : Int) tc2, v]) :: Ld16, Tk16) := by walk_at "gg"
        refine ⟨.inl rfl, _, G18, _, _, _, S18, by exact e1, by exact e2, by exact e3, by exact e4, ⟨fun q hq => g18.a _ (gx.a _ (g515.a q hq)) (by simpa using fD q hq), fun q hq => g18.b _ (gx.b _ (g515.b q hq))⟩, (rI.keep (GrB.of (l := []) gx) (by simp)).keep g18 (by simpa using Ne.symm iD.1), g18.a _ (gx.a _ rE) (by simpa using Ne.symm iD.2), g18.a _ (gx.a _ rP) (by simpa using hPD), hD18, ?_⟩
        rw [e5]
        refine (wa.mono fun v r h => (h.mono gx).keepB S17 ntD g18).append (.cons ?_ .nil)
        refine DV.keepB S17 ntD g18 ⟨T17, tc1, tc2, v, rfl, ?_, tv.mono gx⟩
        rw [count_pt, count_pt]
        exact .head _
      · rename_i tq sq Sq hb2
        have e5 : dueR ps qs (i + 1) = dueR ps qs i := by
          have hn : ((ps.count p0 : Nat) : Int) - ((qs.count p0 : Nat) : Int) = 0 := by simpa using hb2
          rw [dueR_succ, hgd, decide_eq_true h1, hn]; simp
        rw [e5]
        exact ⟨.inl rfl, _, _, _, ys, c, Sq, by exact e1, by exact e2, by exact e3, by exact e4, g515, rI, rE, rP, rD, wa⟩
    · rename_i hb
      have h1 : List.idxOf (ptP p0) ((ps ++ qs).map ptP) ≠ i := fun e => by rw [e] at hb; simp at hb
      have e5 : dueR ps qs (i + 1) = dueR ps qs i := by rw [dueR_succ, hgd, decide_eq_false h1]; simp
      rw [e5]
      have gx : Gr ((Ld12, Tk12) : Ctx) ((P2, lstO (vs1 ++ vs2) 0) :: Ld12, Tk12) := by walk_at "gg"
      exact ⟨.inl rfl, _, _, _, ys, c, S14, by exact e1, by exact e2, by exact e3, by exact e4, g513, hI12.keep (GrB.of (l := []) gx) (by simp), .tail _ he12, .tail _ hP12, .tail _ hD12, ha12.mono fun v r h => DV.mono gx h⟩
  · rintro s11 ⟨m11, G11, old, ys, c, S11, e1, e2, e3, e4, g11, hI11, he11, hP11, hD11, ha11⟩
    refine nx_enm_end am'.hh S11 he11 hI11 hP11 (List.getElem?_eq_none (by lia)) fun G12 s12 S12 g12 => ⟨rfl, ?_⟩
    have ntE : NT G11 [en, I] := .cons he11 enm_nt (.cons hI11.nt.choose_spec.1 hI11.nt.choose_spec.2 .nil)
    have g512 : Gr ((Ld5, Tk5) : Ctx) G12 := ⟨fun q hq => g12.a _ (g11.a q hq) (f5 q hq), fun q hq => g12.b _ (g11.b q hq)⟩
    have hD12 := g12.a _ hD11 (by simp [iD.1, iD.2])
    have ha12 := ha11.mono fun v r h => DV.keepB S11 ntE g12 h
    have hl12 := g512.a _ hlr
    have hm12 := hmr.mono fun v r h => MV.mono g512 h
    clear S11 S8 S9 S10 hI11 he11 hP11 hD11 ha11 g11 g12 ntE
    obtain ⟨Ld12, Tk12⟩ := G12
    dsimp only at hD12 hl12
    try with_reducible refine wpGen fun Qg12 ig12 => ?_
    repeat' (walk_at "go")
    have zr : ysr.length = (dueR ps qs (ps.length + qs.length)).length := hmr.length
    have zd := dueR_length ps qs (ps.length + qs.length)
    refine' ⟨_, _, _, _, _, _, _, _, fun _ => true, fun i G y => DV G y ((dueR ps qs (ps.length + qs.length)).getD i (0, 0, [])), ⟨S12, Gr.rfl, Src.list am'.hh Gr.rfl hl12, ?_, ?_, ?_, ?_⟩⟩
    · lia
    · intro i X G₁ G' s₂ y S hX g h
      exact h.keepB S hX g
    · intro i v C G₁ s₂ oC mc hi hv S g hf hC hn
      obtain ⟨r, hr, hmv⟩ := hm12.getq' hv
      have hrd : (dueR ps qs (ps.length + qs.length)).getD i (0, 0, []) = r := by rw [List.getD_eq_getElem?_getD, hr]; rfl
      rw [hrd]
      obtain ⟨x, dx, t1, t2, u, rfl, hx, hdx, tu⟩ := hmv
      walk_at "go"
      walk_at "go"
      rename_i oC' G1 s13 S13 gB hC' hN'
      have g1 := g.off hf gB
      replace hx := g1.a _ hx
      replace hdx := g1.a _ hdx
      replace tu := tu.mono g1
      clear S g hf hC hn S12
      try with_reducible refine wpGen fun Qg13 ig13 => ?_
      repeat' (walk_at "go")
      refine ⟨rfl, ?_⟩
      rw [if_pos rfl]
      try with_reducible refine wpGen fun Qg14 ig14 => ?_
      repeat' (walk_at "go")
      refine Attribute_name ?_
      try with_reducible refine wpGen fun Qg15 ig15 => ?_
      repeat' (walk_at "go")
      refine row_at (d := d + 2) (i := 0) (p := 159) am' S13 hx hdx (.inl ⟨rfl, rfl⟩) (c_actual _) rfl rfl fun G14 s14 S14 g14 => ?_
      replace hx := g14.a _ hx
      replace hdx := g14.a _ hdx
      have hC14 := g14.a _ hC'
      clear S13
      try with_reducible refine wpGen fun Qg16 ig16 => ?_
      repeat' (walk_at "go")
      refine Attribute_name ?_
      try with_reducible refine wpGen fun Qg17 ig17 => ?_
      repeat' (walk_at "go")
      refine row_at (d := d + 2) (i := 1) (p := 162) am' S14 hx hdx (.inr (.inl ⟨rfl, rfl⟩)) (c_expected _) rfl rfl fun G15 s15 S15 g15 => ?_
      replace hx := g15.a _ hx
      replace hdx := g15.a _ hdx
      have hC15 := g15.a _ hC14
      clear S14
      try with_reducible refine wpGen fun Qg18 ig18 => ?_
      repeat' (walk_at "go")
      refine Attribute_name ?_
      try with_reducible refine wpGen fun Qg19 ig19 => ?_
      repeat' (walk_at "go")
      obtain ⟨au, xu, rfl, hau, hxu⟩ := tu
      refine row_at (d := d + 2) (i := 2) (p := 165) am' S15 hx hdx (.inr (.inr ⟨rfl, rfl⟩)) (c_value _) rfl rfl fun G16 s16 S16 g16 => ?_
      have hC16 := g16.a _ hC15
      have gA : Gr G1 G16 := (g14.trans g15).trans g16
      clear S15
      obtain ⟨Ld16, Tk16⟩ := G16
      dsimp only at hC16
      try with_reducible refine wpGen fun Qg20 ig20 => ?_
      repeat' (walk_at "go")
      rename_i T17 s17 S17 hf17
      have gx : Gr ((Ld16, Tk16) : Ctx) ((T17, tupO [.int (r.1 : Int) t1, .int (r.2.1 : Int) t2, .ref au]) :: Ld16, Tk16) := by walk_at "gg"
      exact ⟨_, _, _, S17, gB.trans (.of (gA.trans gx)), .tail _ hC16, hN', ⟨T17, t1, t2, _, rfl, .head _, TV.mono (gA.trans gx) ⟨au, xu, rfl, hau, hxu⟩⟩⟩
    · intro X13 ys13 n13 G13 s13 S13 g13 hD13 hf13 ha13
      rw [zr] at ha13
      have a13 : All2 (DV G13) ys13 (dueR ps qs (ps.length + qs.length)) := by
        have h1 := All2.mapR (R := DV G13) (g := fun i => (dueR ps qs (ps.length + qs.length)).getD i (0, 0, [])) ha13
        rw [List.filter_eq_self.mpr (fun _ _ => rfl), range_getD] at h1
        exact h1
      have hD14 := g13.a _ hD12
      have a14 := ha12.mono fun v r h => DV.mono g13 h
      clear S12
      try with_reducible refine wpGen fun Qg21 ig21 => ?_
      repeat' (walk_at "go")
      refine eq_ldv S13 (am'.nbAt S13) (Nat.lt_of_le_of_lt (Nat.add_le_add_left (by decide) _) am'.units) hD13 a13 hD14 a14 ?_
      try with_reducible refine wpGen fun Qg22 ig22 => ?_
      repeat' (walk_at "go")
      exact ⟨_, _, S13, gI5.trans (g512.trans g13), rfl⟩
end

-- W2
section

section
variable {prog : Program} {w : World} {A : Around} {E : Value → Shared → Prop} {env : Env} {s : Shared}
def SlK (E : Value → Shared → Prop) (Q : Value → Shared → Prop) (o v : Value) (s : Shared) : Prop :=
  ∃ (h₀ : Heap) (L : Addr) (s₀ : Shared) (l : Addr) (vs : List Value) (a t : Nat) (m : NMap) (G : Ctx), o = .ref l ∧ v = .int (a : Int) t ∧ St h₀ L s₀ m G s ∧ s.heap.IsList l vs.toArray ∧ vs.length ≤ 1000 ∧
      ∀ D D' o' s', St h₀ L s₀ m ((D, lstO (vs.take a) 0) :: (D', o') :: G.1, G.2) s' → (∀ p ∈ G.1, p.1 ≠ D) → Q (.ref D) s'
theorem gToK {value upper : Expr} {p pos : Pos} {Q : Value → Shared → Prop}
    (h : wpAny (model prog w) A (eval value env) (fun o s₁ => wpAny (model prog w) A (eval upper env) (fun v s₂ => SlK E Q o v s₂) E s₁) E s)
    (ht : ∀ o r, letTemporaryGo value o r = pure () := by intro _ _; rfl) : wpAny (model prog w) A (eval (.Subscript value (.Slice none (some upper) none p) pos) env) Q E s := by
  refine wpAny_Subscript_list_slice (wpAny_mono h (fun o s₁ h => ?_) fun _ _ x => x) ht
  refine wpAny_pure ?_
  show wpAny _ _ (eval upper env) _ _ _
  refine wpAny_mono h (fun v s₂ h => ?_) fun _ _ x => x
  obtain ⟨h₀, L, s₀, l, vs, a, t, m, G, rfl, rfl, S, hm, hsz, q⟩ := h
  refine ⟨l, vs.toArray, none, some (a : Int), rfl, hm, by rw [List.size_toArray]; exact Nat.le_trans hsz (by rw [sizeLine_eq]; decide), .none, .int _ _, ?_⟩
  rw [slicePick_upto']
  have S1 := S.new1 (o := { cls := .type "slice", data := .fields #[Value.none, .int (a : Int) t, .none] }) (tk := s₂.toks) rfl (Nat.le_refl _)
  have S2 := S1.new1 (o := lstO (vs.take a) 0) (tk := s₂.toks) rfl (Nat.le_refl _)
  have hsz2 : (s₂.heap.push { cls := .type "slice", data := .fields #[Value.none, .int (a : Int) t, .none] }).objs.size = s₂.heap.objs.size + 1 := Heap.size_push ..
  have S3 : St h₀ L s₀ m ((s₂.heap.objs.size + 1, lstO (vs.take a) 0) :: (s₂.heap.objs.size, _) :: G.1, G.2) _ := hsz2 ▸ S2
  exact q _ _ _ _ S3 (fresh_of S (none_size (Nat.le_succ _)))
end
theorem ints_nv {T : Tks} {vs : List Value} {ns : List Int} (h : IntsAre vs ns) : All2 (NV false T) vs ns := by
  induction h with
  | nil => exact .nil
  | cons n t _ ih => exact .cons NV.int ih
theorem pts_pks (side : Int) (ns : List Int) : ptsOf side ns = (pksOf side ns).map ptP := by
  unfold ptsOf pksOf
  rw [List.map_map]
  exact List.map_congr_left fun n _ => (q3_pt n).symm
theorem pks_Pk {side : Int} {ns : List Int} : ∀ p ∈ pksOf side ns, Pk p := fun p hp => by
  obtain ⟨n, _, rfl⟩ := List.mem_map.mp hp
  exact q3_pk n
theorem pks_length {side : Int} {ns : List Int} : (pksOf side ns).length ≤ ns.length := by unfold pksOf; rw [List.length_map]; exact List.length_filter_le _ _
theorem stat39 (P : Params) : ∃ c n, (hd.heap_1 P).lookup cStatics = some ⟨c, none, .dict #[] n, #[]⟩ := by
  have : ∀ {c : Value} {n : Nat}, (hd.heap_1 P).lookup cStatics = some ⟨c, none, .dict #[] n, #[]⟩ → ∃ c n, (hd.heap_1 P).lookup cStatics = some ⟨c, none, .dict #[] n, #[]⟩ := fun h => ⟨_, _, h⟩
  exact this (show (hd.heap_1 P).lookup 2 = _ from by k_is)

theorem gToS {prog : Program} {w : World} {A : Around} {E : Value → Shared → Prop} {env : Env} {s : Shared} {vp upper : _} {p pos : Pos} {Q : Value → Shared → Prop}
    (h : wpAny (model prog w) A (eval (.Name (Str.ofString "script") vp) env) (fun o s₁ => wpAny (model prog w) A (eval upper env) (fun v s₂ => SlK E Q o v s₂) E s₁) E s)
    (ht : ∀ o r, letTemporaryGo (.Name (Str.ofString "script") vp) o r = pure () := by intro _ _; rfl) : wpAny (model prog w) A (eval (.Subscript (.Name (Str.ofString "script") vp) (.Slice none (some upper) none p) pos) env) Q E s := gToK h ht
local macro_rules | `(tactic| walk_at "go") => `(tactic| ((with_reducible refine' gToS ?_ ?ht); (case ht => intro _ _; exact rfl)))
theorem with_am {w : World} {A : Around} {env : Env} {h₀ : Heap} {L : Addr} {d : Nat} {body : List Stmt} {Q : Flow → Shared → Prop} {E : Value → Shared → Prop} {s : Shared} (am : Am w A env h₀ L d) (h : Am w A env h₀ L d → wpAny (Md w) A (execs body env) Q E s) : wpAny (Md w) A (execs body env) Q E s := h am
theorem with_st {M : Model} {α : Type} {A : Around} {t : Sem α} {Q : α → Shared → Prop} {E : Value → Shared → Prop} {h₀ : Heap} {L : Addr} {s₀ s : Shared} {m : NMap} {G : Ctx} (S : St h₀ L s₀ m G s) (h : ∀ s, St h₀ L s₀ m G s → wpAny M A t Q E s) : wpAny M A t Q E s := h s S
theorem St.back {A : Around} {env : Env} {g g' : Heap} {L : Addr} {s₀ s : Shared} {m : NMap} {G : Ctx} (hA : A.frames = some [env]) (tn : Tn A g g') (S : St g' L s₀ m G s) : St g L s₀ m G s := by
  obtain ⟨e, o, h, T⟩ := tn
  rw [hA] at h
  cases h
  obtain ⟨F, N, K, P, hs⟩ := S
  refine ⟨⟨F.ns, fun b o e => F.keep b o (T.other b o e (by simp)), by rw [← T.size]; exact F.above⟩, fun p hp => ⟨(N p hp).1, (N p hp).2.1, ?_⟩, K, P, hs⟩
  cases q : g.get? p.1 with
  | none => rfl
  | some o => have := T.other _ _ q (by simp); rw [(N p hp).2.2] at this; cases this
theorem lens {ns : List Int} : (([8581, 3461, 5088, 6112, 63] : List Int) ++ ns.take 8).length ≤ 13 := by
  rw [List.length_append, List.length_take]
  simp only [List.length_cons, List.length_nil]
  omega

local macro_rules | `(tactic| k_qdec) => `(tactic| decide +kernel)
set_option maxHeartbeats 8000000 in
theorem all : PySem.Challenge.rw_il0140_01.Holds := hd (by
  k_go0
  rename_i w s₀ s₁ mg mb G Y fa o pm doc kV ho hg KX X V GL T B TE TW w9 w8 M w7 w6 hcd ns hs hlay0 hLy hr1 hl2 w4 w3 script vs w0 hL ra w1 r0 hI hr hcond1 hcond K0 hD h₁ F N0
  simp only [show ∀ n s L a c, envOf n s L a c = envX n s L a c [] from fun _ _ _ _ _ => rfl]
  obtain ⟨cst, nst, hst⟩ := stat39 w.params
  clear G Y ho pm doc kV X V GL B TE TW M hs hlay0 hLy hr1 hl2 ra w1 r0 hr hcond hD hcd
  with_reducible refine with_st (h₀ := s₁.heap) (L := s₁.heap.objs.size) (s₀ := s₁) (m := fun x => List.lookup x [(Str.ofString "script", Value.ref script)].reverse) (G := (([], []) : Ctx)) ?_ fun s S => ?_
  · exact ⟨F, N0, fun p hp => by simp at hp, Nat.succ_pos _, ⟨_, _, rfl⟩⟩
  with_reducible refine with_am (d := 20) (h₀ := s₁.heap) (L := s₁.heap.objs.size) ?_ fun am => ?_
  · exact ⟨⟨callerA, s₁.heap, [], K0, rfl, KX, _, _, _, T⟩, ⟨cst, nst, hst⟩, KX, ⟨_, _, _, T⟩, rfl, rfl, rfl, (by show (1 + claimMargin) + 1 + 20 < recursionLimit; decide +kernel), (by show 4 + 3 + 64 * 20 + 64 < cLine; decide +kernel), noneBooked_of KX hst⟩
  with_reducible refine wpAny_of_noE (wpAny_mono (Q := fun f s' => f = .ret (.bool true) ∧ ∃ m G, St s₁.heap s₁.heap.objs.size s₁ m G s') ?_ (fun f s' h => ?_) fun _ _ x => x)
  rotate_left
  · obtain ⟨rfl, m, G, S'⟩ := h
    obtain ⟨h', tk, hs'⟩ := S'.same
    refine goodW_bool S'.F (by rw [hs']; exact hg) ?_ ?_ (by rw [hs'])
    · intro cls
      rfl
    · first | wrow_post | kc_post
  try with_reducible refine wpGen fun Qg1 ig1 => ?_
  repeat' (walk_at "go")
  rename_i t1 x1 y1 t2 x2 y2 t3 x3 y3 t4 x4 y4 t5 x5 y5 a6 x6 y6 hn6 t7 x7 S7
  refine ⟨_, _, _, script, vs, 8, _, _, _, rfl, rfl, S7, (by obtain ⟨o, ho, r⟩ := hL; exact ⟨o, S7.F.keep _ _ ho, r⟩), ?_, fun D D' o' s8 S8 hf8 => ?_⟩
  · have := hI.length
    omega
  clear y1 y2 y3 y4 y5 y6 S S7
  have zt : (vs.take 8).length ≤ 8 := by rw [List.length_take]; omega
  refine c_cat S8 (by walk_at "mm") (.head _) (by simp only [List.length_cons, List.length_nil]; omega) fun P s9 S9 hfP => ?_
  try with_reducible refine wpGen fun Qg2 ig2 => ?_
  repeat' (walk_at "go")
  have hlen := hI.length
  have zvs : (vs.take 8).length = (ns.take 8).length := by rw [List.length_take, List.length_take, hlen]
  generalize hN : (([8581, 3461, 5088, 6112, 63] : List Int) ++ ns.take 8) = nums
  have hz : nums.length ≤ 13 := by rw [← hN]; exact lens
  have hsrc : All2 (NV false ([] : Tks)) ([.int 8581 t1, .int 3461 t2, .int 5088 t3, .int 6112 t4, .int 63 t5] ++ vs.take 8) nums := by
    rw [← hN]
    exact All2.append (.cons NV.int (.cons NV.int (.cons NV.int (.cons NV.int (.cons NV.int .nil))))) ((ints_nv hI).take 8)
  generalize hvs : ([.int 8581 t1, .int 3461 t2, .int 5088 t3, .int 6112 t4, .int 63 t5] ++ vs.take 8 : List Value) = srcv at S9 hsrc
  have zs := hsrc.length
  refine' ⟨_, _, _, _, _, _, _, fun _ => true, fun i G y => ∃ t, y = .int (nums.getD i 0 % 12288) t, ⟨S9, Gr.rfl, Src.list (l := P) (vs := srcv) (n := 0) am.hh Gr.rfl (.head _), ?_, ?_, ?_, ?_⟩⟩
  · omega
  · intro i X G₁ G' s₂ y S hX g h
    exact h
  · intro i v C G₁ s₂ oC mc hi hv S g hf hC hn
    obtain ⟨n, hn', tn, rfl⟩ := hsrc.getq' hv
    have hnd : nums.getD i 0 = n := by rw [List.getD_eq_getElem?_getD, hn']; rfl
    rw [hnd]
    walk_at "go"
    walk_at "go"
    rename_i oC' G1 s10 S10 gB hC' hN'
    clear S g hf hC hn
    try with_reducible refine wpGen fun Qg3 ig3 => ?_
    repeat' (walk_at "go")
    refine ⟨rfl, ?_⟩
    rw [if_pos rfl]
    try with_reducible refine wpGen fun Qg4 ig4 => ?_
    repeat' (walk_at "go")
    exact ⟨_, _, _, by with_reducible assumption, gB, hC', hN', _, rfl⟩
  · intro D1 ys1 n1 G1 s10 S10 g10 hD1 hf10 ha10
    rw [zs] at ha10
    have a10 : All2 (NV false G1.2) ys1 (nums.map fun n => n % 12288) := by
      have h1 := All2.mapR (R := NV false G1.2) (g := fun i => nums.getD i 0 % 12288) ha10
      rw [List.filter_eq_self.mpr (fun _ _ => rfl)] at h1
      have e : (List.range nums.length).map (fun i => nums.getD i 0 % 12288) = nums.map fun n => n % 12288 := by
        have := congrArg (List.map fun n => n % 12288) (range_getD nums 0)
        rw [List.map_map] at this
        exact this
      rw [e] at h1
      exact h1
    generalize hM : (nums.map fun n => n % 12288) = ms at a10
    have zm : ms.length ≤ 13 := by rw [← hM, List.length_map]; exact hz
    clear S9 g10 ha10 hf10
    try with_reducible refine wpGen fun Qg5 ig5 => ?_
    repeat' (walk_at "go")
    rename_i s11 S11
    refine ⟨⟨_, _, _, S11⟩, ?_⟩
    refine sp_colours (d := 0) hD1 a10 (by omega) (.inl rfl) _ _ _ _ _ _ _ _ _ (am.less' (by decide)) S11 fun G2 v s12 S12 h => ?_
    obtain ⟨g2, l1, rfl, hf12, mv1, mn1, hm1, hd1⟩ := h
    replace hD1 := g2.a _ hD1
    replace a10 := a10.mono fun v x h => NV.mono g2.b h
    clear S10 S11
    try with_reducible refine wpGen fun Qg6 ig6 => ?_
    repeat' (walk_at "go")
    rename_i s13 S13 t13 s14 S14
    refine ⟨⟨_, _, _, S14⟩, ?_⟩
    refine sp_colours (d := 0) hD1 a10 (by omega) (.inr rfl) _ _ _ _ _ _ _ _ _ (am.less' (by decide)) S14 fun G3 v s15 S15 h => ?_
    obtain ⟨g3, l2, rfl, hf15, mv2, mn2, hm2, hd2⟩ := h
    replace hD1 := g3.a _ hD1
    replace a10 := a10.mono fun v x h => NV.mono g3.b h
    replace hm1 := g3.a _ hm1
    replace hd1 := hd1.mono fun v p h => TV.mono g3 h
    clear S12 S13 S14
    try with_reducible refine wpGen fun Qg7 ig7 => ?_
    repeat' (walk_at "go")
    rename_i s16 S16 t16 s17 S17
    refine ⟨⟨_, _, _, S17⟩, ?_⟩
    refine sp_points (d := 0) hD1 a10 (by omega) _ _ _ _ _ _ _ _ _ (am.less' (by decide)) S17 fun G4 v s18 S18 h => ?_
    obtain ⟨g4, l3, rfl, hf18, mv3, mn3, hm3, hd3⟩ := h
    replace hD1 := g4.a _ hD1
    replace a10 := a10.mono fun v x h => NV.mono g4.b h
    replace hm1 := g4.a _ hm1
    replace hd1 := hd1.mono fun v p h => TV.mono g4 h
    replace hm2 := g4.a _ hm2
    replace hd2 := hd2.mono fun v p h => TV.mono g4 h
    clear S15 S16 S17
    try with_reducible refine wpGen fun Qg8 ig8 => ?_
    repeat' (walk_at "go")
    rename_i s19 S19 t19 s20 S20
    refine ⟨⟨_, _, _, S20⟩, ?_⟩
    refine sp_points (d := 0) hD1 a10 (by omega) _ _ _ _ _ _ _ _ _ (am.less' (by decide)) S20 fun G5 v s21 S21 h => ?_
    obtain ⟨g5, l4, rfl, hf21, mv4, mn4, hm4, hd4⟩ := h
    replace hm1 := g5.a _ hm1
    replace hd1 := hd1.mono fun v p h => TV.mono g5 h
    replace hm2 := g5.a _ hm2
    replace hd2 := hd2.mono fun v p h => TV.mono g5 h
    replace hm3 := g5.a _ hm3
    replace hd3 := hd3.mono fun v p h => TV.mono g5 h
    rw [pts_pks] at hd3 hd4
    have z1 : (pksOf 0 ms).length ≤ 13 := Nat.le_trans pks_length zm
    have z2 : (pksOf 1 ms).length ≤ 13 := Nat.le_trans pks_length zm
    clear S18 S19 S20
    try with_reducible refine wpGen fun Qg9 ig9 => ?_
    repeat' (walk_at "go")
    rename_i s22 S22
    refine ⟨⟨_, _, _, S22⟩, ?_⟩
    refine sp_rgbh (d := 0) hm1 hd1 hm2 hd2 hm3 hd3 hm4 hd4 pks_Pk pks_Pk (by omega) (by omega) _ _ _ _ _ _ _ _ _ (am.less' (by decide)) S22 fun g6 G6 v s23 tn6 am6 S23 h => ?_
    obtain ⟨g6', rfl⟩ := h
    replace S23 := St.back (env := _) rfl tn6 S23
    replace hm1 := g6'.a _ hm1
    replace hd1 := hd1.mono fun v p h => TV.mono g6' h
    replace hm2 := g6'.a _ hm2
    replace hd2 := hd2.mono fun v p h => TV.mono g6' h
    replace hm3 := g6'.a _ hm3
    replace hd3 := hd3.mono fun v p h => TV.mono g6' h
    replace hm4 := g6'.a _ hm4
    replace hd4 := hd4.mono fun v p h => TV.mono g6' h
    clear S21 S22 am6
    try with_reducible refine wpGen fun Qg10 ig10 => ?_
    repeat' (walk_at "go")
    refine ⟨⟨_, _, _, S23⟩, ?_⟩
    refine sp_hsvh (d := 0) hm1 hd1 hm2 hd2 hm3 hd3 hm4 hd4 pks_Pk pks_Pk (by omega) (by omega) _ _ _ _ _ _ _ _ _ (am.less' (by decide)) S23 fun g7 G7 v s24 tn7 am7 S24 h => ?_
    obtain ⟨g7', rfl⟩ := h
    replace S24 := St.back (env := _) rfl tn7 S24
    replace hm1 := g7'.a _ hm1
    replace hd1 := hd1.mono fun v p h => TV.mono g7' h
    replace hm2 := g7'.a _ hm2
    replace hd2 := hd2.mono fun v p h => TV.mono g7' h
    replace hm3 := g7'.a _ hm3
    replace hd3 := hd3.mono fun v p h => TV.mono g7' h
    replace hm4 := g7'.a _ hm4
    replace hd4 := hd4.mono fun v p h => TV.mono g7' h
    clear S23 am7
    try with_reducible refine wpGen fun Qg11 ig11 => ?_
    repeat' (walk_at "go")
    refine ⟨⟨_, _, _, S24⟩, ?_⟩
    refine sp_hlsh (d := 0) hm1 hd1 hm2 hd2 hm3 hd3 hm4 hd4 pks_Pk pks_Pk (by omega) (by omega) _ _ _ _ _ _ _ _ _ (am.less' (by decide)) S24 fun G8 v s25 S25 h => ?_
    obtain ⟨g8', rfl⟩ := h
    clear S24
    try with_reducible refine wpGen fun Qg12 ig12 => ?_
    repeat' (walk_at "go")
    exact ⟨rfl, _, _, S25⟩)
end

end Mine

theorem PySem.Challenge.cw_il0140_01_holds : PySem.Challenge.rw_il0140_01.Holds := by
  exact Mine.all
