import PyProof.Rows.All
import Wide.All
import OpenK.AllK
import Wide.FinOn
import PySem.Challenge.RW_bh0017_01
set_option Elab.async false
set_option linter.unusedVariables false

section
/-! P1 -/
namespace Mine

/-- flags of a commit: ancestor of the first, of the second, do not care, marked -/
structure Fl where
  a : Bool
  b : Bool
  d : Bool
  l : Bool

namespace Fl
def n (f : Fl) : Int := (if f.a then 1 else 0) + (if f.b then 2 else 0) + (if f.d then 4 else 0) + (if f.l then 8 else 0)
def zero : Fl := ⟨false, false, false, false⟩
def or (f g : Fl) : Fl := ⟨f.a || g.a, f.b || g.b, f.d || g.d, f.l || g.l⟩
def le (f g : Fl) : Bool := (!f.a || g.a) && (!f.b || g.b) && (!f.d || g.d) && (!f.l || g.l)
def low (f : Fl) : Fl := ⟨f.a, f.b, f.d, false⟩
def eff (f : Fl) : Fl := ⟨f.a, f.b, f.d || (f.a && f.b), false⟩
def bits (f : Fl) : Nat := (if f.a then 1 else 0) + (if f.b then 1 else 0) + (if f.d then 1 else 0) + (if f.l then 1 else 0)
theorem bits_le (f : Fl) : f.bits ≤ 4 := by
  rcases f with ⟨a, b, d, l⟩; cases a <;> cases b <;> cases d <;> cases l <;> decide
theorem le_a {f g : Fl} (h : f.le g = true) (x : f.a = true) : g.a = true := by
  rcases f with ⟨a, b, d, l⟩; rcases g with ⟨a', b', d', l'⟩
  simp only [le] at *; simp_all
theorem le_b {f g : Fl} (h : f.le g = true) (x : f.b = true) : g.b = true := by
  rcases f with ⟨a, b, d, l⟩; rcases g with ⟨a', b', d', l'⟩
  simp only [le] at *; simp_all
theorem le_d {f g : Fl} (h : f.le g = true) (x : f.d = true) : g.d = true := by
  rcases f with ⟨a, b, d, l⟩; rcases g with ⟨a', b', d', l'⟩
  simp only [le] at *; simp_all
theorem le_or (f g : Fl) : g.le (f.or g) = true := by
  rcases f with ⟨a, b, d, l⟩; rcases g with ⟨a', b', d', l'⟩
  cases a <;> cases b <;> cases d <;> cases l <;> cases a' <;> cases b' <;> cases d' <;> cases l' <;> rfl
theorem le_or_left (f g : Fl) : f.le (f.or g) = true := by
  rcases f with ⟨a, b, d, l⟩; rcases g with ⟨a', b', d', l'⟩
  cases a <;> cases b <;> cases d <;> cases l <;> cases a' <;> cases b' <;> cases d' <;> cases l' <;> rfl
theorem le_trans {f g k : Fl} (h : f.le g = true) (h' : g.le k = true) : f.le k = true := by
  rcases f with ⟨a, b, d, l⟩; rcases g with ⟨a', b', d', l'⟩; rcases k with ⟨a'', b'', d'', l''⟩
  revert h h'
  cases a <;> cases b <;> cases d <;> cases l <;> cases a' <;> cases b' <;> cases d' <;> cases l' <;> cases a'' <;> cases b'' <;> cases d'' <;> cases l'' <;> decide
theorem or_bits {f g : Fl} (h : g.le f = false) : f.bits + 1 ≤ (f.or g).bits := by
  rcases f with ⟨a, b, d, l⟩; rcases g with ⟨a', b', d', l'⟩
  revert h
  cases a <;> cases b <;> cases d <;> cases l <;> cases a' <;> cases b' <;> cases d' <;> cases l' <;> decide
end Fl

abbrev St := Int → Option Fl
def St.put (st : St) (k : Int) (f : Fl) : St := fun x => if x = k then some f else st x
theorem St.put_self (st : St) (k : Int) (f : Fl) : st.put k f k = some f := by simp [St.put]
theorem St.put_ne (st : St) {k x : Int} (f : Fl) (h : x ≠ k) : st.put k f x = st x := by simp [St.put, h]

structure Qu where
  n : Nat
  f : Nat → Int × Int
def Qu.has (q : Qu) (e : Int × Int) : Prop := ∃ i, i < q.n ∧ q.f i = e

/-- a history: the universe, the parents, the stamps, `Le x a`: x is a or an ancestor of a -/
structure Hist (U : List Int) (par : Int → List Int) (stamp : Int → Int) (Le : Int → Int → Prop) : Prop where
  mem : ∀ c ∈ U, ∀ p ∈ par c, p ∈ U
  le : ∀ c ∈ U, ∀ p ∈ par c, Le p c
  lt : ∀ c ∈ U, ∀ p ∈ par c, stamp p < stamp c
  refl : ∀ c ∈ U, Le c c
  tr : ∀ x y z, Le x y → Le y z → Le x z
  step : ∀ a ∈ U, ∀ x ∈ U, Le x a → x ≠ a → ∃ p ∈ par a, Le x p
  small : ∀ a ∈ U, ∀ x ∈ U, Le x a → x ≠ a → stamp x < stamp a

structure Meet (U : List Int) (stamp : Int → Int) (Le : Int → Int → Prop) (c1 c2 g mn : Int) : Prop where
  gU : g ∈ U
  U1 : c1 ∈ U
  U2 : c2 ∈ U
  g1 : Le g c1
  g2 : Le g c2
  top : ∀ x ∈ U, Le x c1 → Le x c2 → Le x g
  mn1 : mn ≤ stamp c1

section
variable (U : List Int) (par : Int → List Int) (stamp : Int → Int) (Le : Int → Int → Prop) (c1 c2 g mn : Int)

def Spread (st : St) (c : Int) (fl : Fl) (rest : List Int) : Prop :=
  ∀ p ∈ par c, p ∈ rest ∨ (mn ≤ stamp p → ∃ pf, st p = some pf ∧ fl.le pf = true)

structure JB (q : Qu) (st : St) (cs : List (Int × Int)) : Prop where
  qU : ∀ e, q.has e → e.1 = - stamp e.2 ∧ ∃ f, st e.2 = some f
  stU : ∀ c f, st c = some f → c ∈ U
  sa : ∀ c f, st c = some f → f.a = true → Le c c1 ∧ (c = c1 ∨ mn ≤ stamp c)
  sb : ∀ c f, st c = some f → f.b = true → Le c c2
  sd : ∀ c f, st c = some f → f.d = true → Le c g ∧ c ≠ g
  nz : ∀ c f, st c = some f → f.a = true ∨ f.b = true
  i1 : ∃ f, st c1 = some f ∧ f.a = true
  i2 : ∃ f, st c2 = some f ∧ f.b = true
  l1 : ∀ c f, st c = some f → f.l = true → c = g ∧ f.a = true
  cs : (∃ f, st g = some f ∧ f.l = true ∧ cs = [(stamp g, g)]) ∨ ((∀ f, st g = some f → f.l = false) ∧ cs = [])

def Own (st : St) (f : Fl) : Prop := f.a = true → f.b = true → f.d = false → f.l = true

structure J (q : Qu) (st : St) (cs : List (Int × Int)) : Prop where
  base : JB U stamp Le c1 c2 g mn q st cs
  pr : ∀ c f, st c = some f → (∃ e, q.has e ∧ e.2 = c) ∨ (Spread par stamp mn st c f.eff [] ∧ Own st f)

/-- within a turn: c is being spread, `rest` of its parents are still to come -/
structure JM (c : Int) (fl : Fl) (rest : List Int) (q : Qu) (st : St) (cs : List (Int × Int)) : Prop where
  base : JB U stamp Le c1 c2 g mn q st cs
  cU : c ∈ U
  cf : ∃ f, st c = some f ∧ f.eff = fl ∧ Own st f
  sub : ∀ p ∈ rest, p ∈ par c
  mine : Spread par stamp mn st c fl rest
  pr : ∀ x f, x ≠ c → st x = some f → (∃ e, q.has e ∧ e.2 = x) ∨ (Spread par stamp mn st x f.eff [] ∧ Own st f)
end

section
variable {U : List Int} {par : Int → List Int} {stamp : Int → Int} {Le : Int → Int → Prop} {c1 c2 g mn : Int}

theorem Fl.eff_low (f : Fl) : f.eff = if f.a && f.b && !f.d then (f.low.or ⟨false, false, true, false⟩) else f.low := by
  rcases f with ⟨a, b, d, l⟩
  cases a <;> cases b <;> cases d <;> cases l <;> rfl

/-- a bit runs down along parents as long as every commit passed on the way has been spread -/
theorem reach (H : Hist U par stamp Le) {st : St} (B : Fl → Prop) (hB : ∀ f pf : Fl, B f → f.eff.le pf = true → B pf) (hst : ∀ c f, st c = some f → c ∈ U)
    {y : Int} (yU : y ∈ U) (hy : mn ≤ stamp y) (N : ∀ x f, st x = some f → Le y x → x ≠ y → Spread par stamp mn st x f.eff []) :
    ∀ (k : Nat) (a : Int) (fa : Fl), (stamp a - stamp y).toNat ≤ k → st a = some fa → B fa → Le y a → ∃ f, st y = some f ∧ B f := by
  intro k
  induction k with
  | zero =>
    intro a fa hk ha hBa hl
    by_cases e : y = a
    · subst e; exact ⟨fa, ha, hBa⟩
    · have := H.small a (hst a fa ha) y yU hl e
      omega
  | succ k ih =>
    intro a fa hk ha hBa hl
    by_cases e : y = a
    · subst e; exact ⟨fa, ha, hBa⟩
    · have aU := hst a fa ha
      obtain ⟨p, hp, hlp⟩ := H.step a aU y yU hl e
      have pU := H.mem a aU p hp
      have l1 := H.lt a aU p hp
      have l2 : stamp y ≤ stamp p := by
        by_cases e2 : y = p
        · subst e2; exact Int.le_refl _
        · exact Int.le_of_lt (H.small p pU y yU hlp e2)
      rcases N a fa ha hl (fun z => e z.symm) p hp with hr | hr
      · cases hr
      · obtain ⟨pf, e1, e2⟩ := hr (by omega)
        exact ih p pf (by omega) e1 (hB _ _ hBa e2) hlp

theorem keep_a (f pf : Fl) (h : f.a = true) (x : f.eff.le pf = true) : pf.a = true := Fl.le_a x h
theorem keep_b (f pf : Fl) (h : f.b = true) (x : f.eff.le pf = true) : pf.b = true := Fl.le_b x h
theorem keep_d (f pf : Fl) (h : f.d = true) (x : f.eff.le pf = true) : pf.d = true := Fl.le_d x (by simp [Fl.eff, h])

/-- the least entry's commit: if it is seen from both and not given up, it is the meet -/
theorem first_is (H : Hist U par stamp Le) (M : Meet U stamp Le c1 c2 g mn) {q : Qu} {st : St} {cs : List (Int × Int)} (X : J U par stamp Le c1 c2 g mn q st cs)
    {c : Int} {f : Fl} (hmin : ∀ e, q.has e → stamp e.2 ≤ stamp c) (hc : st c = some f) (ha : f.a = true) (hb : f.b = true) (hd : f.d = false) : c = g := by
  have cU := X.base.stU c f hc
  obtain ⟨l1, m1⟩ := X.base.sa c f hc ha
  have l2 := X.base.sb c f hc hb
  have lg := M.top c cU l1 l2
  by_cases e : c = g
  · exact e
  · exfalso
    have sg := H.small g M.gU c cU lg e
    have mc : mn ≤ stamp c := by
      rcases m1 with rfl | h
      · exact M.mn1
      · exact h
    have spread : ∀ x fx, st x = some fx → stamp c < stamp x → Spread par stamp mn st x fx.eff [] := by
      intro x fx hx hlt
      rcases X.pr x fx hx with ⟨en, h1, rfl⟩ | ⟨h1, _⟩
      · have := hmin en h1; omega
      · exact h1
    have up : ∀ x y, y ∈ U → x ∈ U → stamp c < stamp y → Le y x → stamp c < stamp x := by
      intro x y yU xU hlt hl
      by_cases e : y = x
      · subst e; exact hlt
      · have := H.small x xU y yU hl e; omega
    obtain ⟨f1, e1, a1⟩ := X.base.i1
    obtain ⟨f2, e2, b2⟩ := X.base.i2
    obtain ⟨fg, eg, ag⟩ := reach H (fun f => f.a = true) keep_a X.base.stU M.gU (by omega) (fun x fx hx hl _ => spread x fx hx (up x g M.gU (X.base.stU x fx hx) sg hl)) _ c1 f1 (Nat.le_refl _) e1 a1 M.g1
    obtain ⟨fg', eg', bg⟩ := reach H (fun f => f.b = true) keep_b X.base.stU M.gU (by omega) (fun x fx hx hl _ => spread x fx hx (up x g M.gU (X.base.stU x fx hx) sg hl)) _ c2 f2 (Nat.le_refl _) e2 b2 M.g2
    rw [eg] at eg'; cases eg'
    obtain ⟨p, hp, hlp⟩ := H.step g M.gU c cU lg e
    have pU := H.mem g M.gU p hp
    have pc : stamp c ≤ stamp p := by
      by_cases e2 : c = p
      · subst e2; exact Int.le_refl _
      · exact Int.le_of_lt (H.small p pU c cU hlp e2)
    rcases spread g fg eg sg p hp with hr | hr
    · cases hr
    · obtain ⟨pf, ep, lp⟩ := hr (by omega)
      have pd : pf.d = true := Fl.le_d lp (by simp [Fl.eff, ag, bg])
      obtain ⟨fc, ec, dc⟩ := reach H (fun f => f.d = true) keep_d X.base.stU cU mc (fun x fx hx hl hn => spread x fx hx (by
        have := H.small x (X.base.stU x fx hx) c cU hl (fun z => hn z.symm); omega)) _ p pf (Nat.le_refl _) ep pd hlp
      rw [hc] at ec; cases ec
      rw [hd] at dc; cases dc

/-- what a pop hands on -/
structure Popped (q q' : Qu) (e : Int × Int) : Prop where
  has : q.has e
  sub : ∀ x, q'.has x → q.has x
  or : ∀ x, q.has x → x = e ∨ q'.has x
  least : ∀ x, q.has x → e.1 ≤ x.1
  len : q'.n + 1 = q.n
structure Pushed (q q' : Qu) (e : Int × Int) : Prop where
  iff : ∀ x, q'.has x ↔ x = e ∨ q.has x
  len : q'.n = q.n + 1

def Marks (f : Fl) : Bool := f.a && f.b && !f.d && !f.l
def markSt (st : St) (c : Int) (f : Fl) : St := if Marks f then st.put c { f with l := true } else st
def markCs (cs : List (Int × Int)) (e : Int × Int) (f : Fl) : List (Int × Int) := if Marks f then cs ++ [(- e.1, e.2)] else cs

theorem J.pop (H : Hist U par stamp Le) (M : Meet U stamp Le c1 c2 g mn) {q q' : Qu} {st : St} {cs : List (Int × Int)} (X : J U par stamp Le c1 c2 g mn q st cs)
    {e : Int × Int} (P : Popped q q' e) {f : Fl} (hc : st e.2 = some f) :
    JM U par stamp Le c1 c2 g mn e.2 f.eff (par e.2) q' (markSt st e.2 f) (markCs cs e f) := by
  have cU := X.base.stU _ _ hc
  obtain ⟨hk, _⟩ := X.base.qU e P.has
  have hmin : ∀ x, q.has x → stamp x.2 ≤ stamp e.2 := fun x hx => by
    have h1 := P.least x hx
    have h2 := (X.base.qU x hx).1
    omega
  cases hm : Marks f with
  | false =>
    have e1 : markSt st e.2 f = st := by simp [markSt, hm]
    have e2 : markCs cs e f = cs := by simp [markCs, hm]
    rw [e1, e2]
    refine ⟨⟨fun x hx => X.base.qU x (P.sub x hx), X.base.stU, X.base.sa, X.base.sb, X.base.sd, X.base.nz, X.base.i1, X.base.i2, X.base.l1, X.base.cs⟩, cU, ⟨f, hc, rfl, ?_⟩, fun _ h => h, fun p hp => .inl hp, ?_⟩
    · intro ha hb hd
      cases hl : f.l with
      | true => rfl
      | false => simp [Marks, ha, hb, hd, hl] at hm
    · intro x fx hx hs
      rcases X.pr x fx hs with ⟨en, h1, h2⟩ | h
      · rcases P.or en h1 with rfl | h3
        · exact absurd h2.symm hx
        · exact .inl ⟨en, h3, h2⟩
      · exact .inr h
  | true =>
    have e1 : markSt st e.2 f = st.put e.2 { f with l := true } := by simp [markSt, hm]
    have e2 : markCs cs e f = cs ++ [(- e.1, e.2)] := by simp [markCs, hm]
    rw [e1, e2]
    simp only [Marks, Bool.and_eq_true, Bool.not_eq_true'] at hm
    obtain ⟨⟨⟨ha, hb⟩, hd⟩, hl⟩ := hm
    have cg : e.2 = g := first_is H M X hmin hc ha hb hd
    have get : ∀ x fx, st.put e.2 { f with l := true } x = some fx → ∃ fx', st x = some fx' ∧ fx.a = fx'.a ∧ fx.b = fx'.b ∧ fx.d = fx'.d ∧ (fx.l = true → fx'.l = true ∨ x = e.2) := by
      intro x fx hx
      by_cases h : x = e.2
      · subst h
        rw [St.put_self] at hx; cases hx
        exact ⟨f, hc, rfl, rfl, rfl, fun _ => .inr rfl⟩
      · rw [St.put_ne _ _ h] at hx
        exact ⟨fx, hx, rfl, rfl, rfl, fun z => .inl z⟩
    have put : ∀ x fx, st x = some fx → ∃ fx', st.put e.2 { f with l := true } x = some fx' ∧ fx'.a = fx.a ∧ fx'.b = fx.b ∧ fx'.d = fx.d ∧ (∀ k : Fl, k.l = false → k.le fx = true → k.le fx' = true) := by
      intro x fx hx
      by_cases h : x = e.2
      · subst h
        rw [hc] at hx; cases hx
        refine ⟨_, St.put_self .., rfl, rfl, rfl, fun k hk hle => ?_⟩
        simp only [Fl.le] at hle ⊢
        simp_all
      · exact ⟨fx, by rw [St.put_ne _ _ h]; exact hx, rfl, rfl, rfl, fun _ _ z => z⟩
    refine ⟨⟨fun x hx => ?_, fun x fx hx => ?_, fun x fx hx h => ?_, fun x fx hx h => ?_, fun x fx hx h => ?_, fun x fx hx => ?_, ?_, ?_, fun x fx hx h => ?_, ?_⟩, cU, ⟨_, St.put_self .., ?_, fun _ _ _ => rfl⟩, fun _ h => h, fun p hp => .inl hp, ?_⟩
    · obtain ⟨h1, f1, h2⟩ := X.base.qU x (P.sub x hx)
      obtain ⟨f1', h3, _⟩ := put _ _ h2
      exact ⟨h1, f1', h3⟩
    · obtain ⟨f', h1, _⟩ := get x fx hx; exact X.base.stU _ _ h1
    · obtain ⟨f', h1, h2, _⟩ := get x fx hx; exact X.base.sa _ _ h1 (h2 ▸ h)
    · obtain ⟨f', h1, _, h2, _⟩ := get x fx hx; exact X.base.sb _ _ h1 (h2 ▸ h)
    · obtain ⟨f', h1, _, _, h2, _⟩ := get x fx hx; exact X.base.sd _ _ h1 (h2 ▸ h)
    · obtain ⟨f', h1, h2, h3, _⟩ := get x fx hx; rw [h2, h3]; exact X.base.nz _ _ h1
    · obtain ⟨f', h1, h2⟩ := X.base.i1
      obtain ⟨f'', h3, h4, _⟩ := put _ _ h1
      exact ⟨f'', h3, h4.trans h2⟩
    · obtain ⟨f', h1, h2⟩ := X.base.i2
      obtain ⟨f'', h3, _, h4, _⟩ := put _ _ h1
      exact ⟨f'', h3, h4.trans h2⟩
    · obtain ⟨f', h1, h0, _, _, h2⟩ := get x fx hx
      rcases h2 h with h3 | rfl
      · exact ⟨(X.base.l1 _ _ h1 h3).1, h0.trans (X.base.l1 _ _ h1 h3).2⟩
      · rw [hc] at h1; cases h1
        exact ⟨cg, h0.trans ha⟩
    · left
      refine ⟨{ f with l := true }, by rw [← cg]; exact St.put_self .., rfl, ?_⟩
      rcases X.base.cs with ⟨f', h1, h2, _⟩ | ⟨_, h2⟩
      · rw [← cg, hc] at h1; cases h1; rw [hl] at h2; cases h2
      · rw [h2, hk, cg]; simp
    · simp [Fl.eff]
    · intro x fx hx hs
      rw [St.put_ne _ _ hx] at hs
      rcases X.pr x fx hs with ⟨en, h1, h2⟩ | ⟨h1, h2⟩
      · rcases P.or en h1 with rfl | h3
        · exact absurd h2.symm hx
        · exact .inl ⟨en, h3, h2⟩
      · refine .inr ⟨fun p hp => ?_, h2⟩
        rcases h1 p hp with h3 | h3
        · exact .inl h3
        · refine .inr fun hmn => ?_
          obtain ⟨pf, h4, h5⟩ := h3 hmn
          obtain ⟨pf', h6, _, _, _, h7⟩ := put _ _ h4
          exact ⟨pf', h6, h7 _ rfl h5⟩

theorem JM.done {c : Int} {fl : Fl} {q : Qu} {st : St} {cs : List (Int × Int)} (X : JM U par stamp Le c1 c2 g mn c fl [] q st cs) : J U par stamp Le c1 c2 g mn q st cs := by
  refine ⟨X.base, fun x f hx => ?_⟩
  by_cases h : x = c
  · subst h
    obtain ⟨f', h1, h2, h3⟩ := X.cf
    rw [hx] at h1; cases h1
    exact .inr ⟨h2 ▸ X.mine, h3⟩
  · exact X.pr x f h hx

theorem JM.has {c p : Int} {fl pf : Fl} {rest : List Int} {q : Qu} {st : St} {cs : List (Int × Int)} (X : JM U par stamp Le c1 c2 g mn c fl (p :: rest) q st cs)
    (h : st p = some pf) (hl : fl.le pf = true) : JM U par stamp Le c1 c2 g mn c fl rest q st cs := by
  refine ⟨X.base, X.cU, X.cf, fun p hp => X.sub p (.tail _ hp), fun x hx => ?_, X.pr⟩
  rcases X.mine x hx with h1 | h1
  · rcases List.mem_cons.mp h1 with rfl | h1
    · exact .inr fun _ => ⟨pf, h, hl⟩
    · exact .inl h1
  · exact .inr h1

theorem JM.low {c p : Int} {fl : Fl} {rest : List Int} {q : Qu} {st : St} {cs : List (Int × Int)} (X : JM U par stamp Le c1 c2 g mn c fl (p :: rest) q st cs)
    (h : stamp p < mn) : JM U par stamp Le c1 c2 g mn c fl rest q st cs := by
  refine ⟨X.base, X.cU, X.cf, fun p hp => X.sub p (.tail _ hp), fun x hx => ?_, X.pr⟩
  rcases X.mine x hx with h1 | h1
  · rcases List.mem_cons.mp h1 with rfl | h1
    · exact .inr fun _ => by omega
    · exact .inl h1
  · exact .inr h1

theorem JM.zero {c : Int} {fl : Fl} {rest : List Int} {q : Qu} {st : St} {cs : List (Int × Int)} (X : JM U par stamp Le c1 c2 g mn c fl rest q st cs) : fl.le Fl.zero = false := by
  obtain ⟨f, h1, h2, _⟩ := X.cf
  subst h2
  rcases X.base.nz _ _ h1 with h | h <;> simp [Fl.le, Fl.eff, Fl.zero, h]

theorem JM.relax (H : Hist U par stamp Le) (M : Meet U stamp Le c1 c2 g mn) {c p : Int} {fl : Fl} {rest : List Int} {q q' : Qu} {st : St} {cs : List (Int × Int)} (X : JM U par stamp Le c1 c2 g mn c fl (p :: rest) q st cs)
    (hm : mn ≤ stamp p) (P : Pushed q q' (- stamp p, p)) :
    JM U par stamp Le c1 c2 g mn c fl rest q' (st.put p (((st p).getD Fl.zero).or fl)) cs := by
  have hp : p ∈ par c := X.sub p (.head _)
  have pU := H.mem c X.cU p hp
  have plt := H.lt c X.cU p hp
  have ple := H.le c X.cU p hp
  have pc : p ≠ c := fun e => by subst e; exact Int.lt_irrefl _ plt
  obtain ⟨f, cf1, cf2, cf3⟩ := X.cf
  have fll : fl.l = false := by rw [← cf2]; rfl
  have old : ∀ pf, st p = some pf → (st p).getD Fl.zero = pf := fun pf h => by rw [h]; rfl
  have put : ∀ x fx, st x = some fx → ∃ fx', st.put p (((st p).getD Fl.zero).or fl) x = some fx' ∧ fx.le fx' = true := by
    intro x fx hx
    by_cases h : x = p
    · subst h
      exact ⟨_, St.put_self .., by rw [old _ hx]; exact Fl.le_or_left ..⟩
    · refine ⟨fx, by rw [St.put_ne _ _ h]; exact hx, ?_⟩
      rcases fx with ⟨a, b, d, l⟩
      cases a <;> cases b <;> cases d <;> cases l <;> rfl
  have spr : ∀ x k r, Spread par stamp mn st x k r → Spread par stamp mn (st.put p (((st p).getD Fl.zero).or fl)) x k r := by
    intro x k r hs y hy
    rcases hs y hy with h | h
    · exact .inl h
    · refine .inr fun hmy => ?_
      obtain ⟨pf, h1, h2⟩ := h hmy
      obtain ⟨pf', h3, h4⟩ := put _ _ h1
      exact ⟨pf', h3, Fl.le_trans h2 h4⟩
  -- the bits that p gets
  have gl : f.a = true → f.b = true → Le c g := fun ha hb => M.top c X.cU (X.base.sa _ _ cf1 ha).1 (X.base.sb _ _ cf1 hb)
  refine ⟨⟨fun x hx => ?_, fun x fx hx => ?_, fun x fx hx h => ?_, fun x fx hx h => ?_, fun x fx hx h => ?_, fun x fx hx => ?_, ?_, ?_, fun x fx hx h => ?_, ?_⟩, X.cU, ⟨f, by rw [St.put_ne _ _ pc.symm]; exact cf1, cf2, cf3⟩, fun y hy => X.sub y (.tail _ hy), fun y hy => ?_, fun x fx hx hs => ?_⟩
  · rcases (P.iff x).mp hx with rfl | hx
    · exact ⟨rfl, _, St.put_self ..⟩
    · obtain ⟨h1, f1, h2⟩ := X.base.qU x hx
      obtain ⟨f2, h3, _⟩ := put _ _ h2
      exact ⟨h1, f2, h3⟩
  · by_cases e : x = p
    · subst e; exact pU
    · rw [St.put_ne _ _ e] at hx; exact X.base.stU _ _ hx
  · by_cases e : x = p
    · subst e
      rw [St.put_self] at hx; cases hx
      simp only [Fl.or, Bool.or_eq_true] at h
      rcases h with h | h
      · cases hp' : st x with
        | none => rw [hp'] at h; cases h
        | some pf => rw [old _ hp'] at h; exact X.base.sa _ _ hp' h
      · rw [← cf2] at h
        exact ⟨H.tr _ _ _ ple (X.base.sa _ _ cf1 h).1, .inr hm⟩
    · rw [St.put_ne _ _ e] at hx; exact X.base.sa _ _ hx h
  · by_cases e : x = p
    · subst e
      rw [St.put_self] at hx; cases hx
      simp only [Fl.or, Bool.or_eq_true] at h
      rcases h with h | h
      · cases hp' : st x with
        | none => rw [hp'] at h; cases h
        | some pf => rw [old _ hp'] at h; exact X.base.sb _ _ hp' h
      · rw [← cf2] at h
        exact H.tr _ _ _ ple (X.base.sb _ _ cf1 h)
    · rw [St.put_ne _ _ e] at hx; exact X.base.sb _ _ hx h
  · by_cases e : x = p
    · subst e
      rw [St.put_self] at hx; cases hx
      simp only [Fl.or, Bool.or_eq_true] at h
      rcases h with h | h
      · cases hp' : st x with
        | none => rw [hp'] at h; cases h
        | some pf => rw [old _ hp'] at h; exact X.base.sd _ _ hp' h
      · have cg : Le c g := by
          rw [← cf2] at h
          simp only [Fl.eff, Bool.or_eq_true, Bool.and_eq_true] at h
          rcases h with h | ⟨h1, h2⟩
          · exact (X.base.sd _ _ cf1 h).1
          · exact gl h1 h2
        refine ⟨H.tr _ _ _ ple cg, fun e => ?_⟩
        subst e
        by_cases e2 : c = x
        · exact pc e2.symm
        · have := H.small x pU c X.cU cg e2; omega
    · rw [St.put_ne _ _ e] at hx; exact X.base.sd _ _ hx h
  · by_cases e : x = p
    · subst e
      rw [St.put_self] at hx; cases hx
      rcases X.base.nz _ _ cf1 with h | h
      · left; simp [Fl.or, ← cf2, Fl.eff, h]
      · right; simp [Fl.or, ← cf2, Fl.eff, h]
    · rw [St.put_ne _ _ e] at hx; exact X.base.nz _ _ hx
  · obtain ⟨f', h1, h2⟩ := X.base.i1
    obtain ⟨f'', h3, h4⟩ := put _ _ h1
    exact ⟨f'', h3, Fl.le_a h4 h2⟩
  · obtain ⟨f', h1, h2⟩ := X.base.i2
    obtain ⟨f'', h3, h4⟩ := put _ _ h1
    exact ⟨f'', h3, Fl.le_b h4 h2⟩
  · by_cases e : x = p
    · subst e
      rw [St.put_self] at hx; cases hx
      simp only [Fl.or, fll, Bool.or_false] at h
      cases hp' : st x with
      | none => rw [hp'] at h; cases h
      | some pf =>
        rw [hp'] at h
        have z := X.base.l1 _ _ hp' h
        exact ⟨z.1, by simp [Fl.or, z.2]⟩
    · rw [St.put_ne _ _ e] at hx; exact X.base.l1 _ _ hx h
  · rcases X.base.cs with ⟨f', h1, h2, h3⟩ | ⟨h1, h2⟩
    · left
      obtain ⟨f'', h4, h5⟩ := put _ _ h1
      refine ⟨f'', h4, ?_, h3⟩
      simp only [Fl.le, Bool.and_eq_true, Bool.or_eq_true, Bool.not_eq_true'] at h5
      rcases h5.2 with h | h
      · rw [h2] at h; cases h
      · exact h
    · right
      refine ⟨fun f' hf' => ?_, h2⟩
      by_cases e : g = p
      · subst e
        rw [St.put_self] at hf'; cases hf'
        simp only [Fl.or, fll, Bool.or_false]
        cases hp' : st g with
        | none => rfl
        | some pf => exact h1 _ hp'
      · rw [St.put_ne _ _ e] at hf'; exact h1 _ hf'
  · by_cases e : y = p
    · subst e
      exact .inr fun _ => ⟨_, St.put_self .., Fl.le_or ..⟩
    · rcases X.mine y hy with h | h
      · rcases List.mem_cons.mp h with rfl | h
        · exact absurd rfl e
        · exact .inl h
      · refine .inr fun hmy => ?_
        obtain ⟨pf, h1, h2⟩ := h hmy
        obtain ⟨pf', h3, h4⟩ := put _ _ h1
        exact ⟨pf', h3, Fl.le_trans h2 h4⟩
  · by_cases e : x = p
    · subst e
      exact .inl ⟨(- stamp x, x), (P.iff _).mpr (.inl rfl), rfl⟩
    · rw [St.put_ne _ _ e] at hs
      rcases X.pr x fx hx hs with ⟨en, h1, h2⟩ | ⟨h1, h2⟩
      · exact .inl ⟨en, (P.iff _).mpr (.inr h1), h2⟩
      · exact .inr ⟨spr _ _ _ h1, h2⟩

/-- the end: nothing in the queue is still of interest -/
theorem J.fin (H : Hist U par stamp Le) (M : Meet U stamp Le c1 c2 g mn) {q : Qu} {st : St} {cs : List (Int × Int)} (X : J U par stamp Le c1 c2 g mn q st cs)
    (hq : ∀ e, q.has e → ∀ f, st e.2 = some f → f.d = true) :
    (mn ≤ stamp g ∧ cs = [(stamp g, g)] ∧ ∃ f, st g = some f ∧ f.d = false) ∨ (¬ mn ≤ stamp g ∧ cs = []) := by
  have nod : ∀ f, st g = some f → f.d = false := fun f hf => by
    cases hd : f.d with
    | false => rfl
    | true => exact absurd rfl (X.base.sd g f hf hd).2
  by_cases hm : mn ≤ stamp g
  · left
    have N : ∀ x f, st x = some f → Le g x → x ≠ g → Spread par stamp mn st x f.eff [] := by
      intro x f hx hl hn
      rcases X.pr x f hx with ⟨e, h1, rfl⟩ | ⟨h1, _⟩
      · have hd := hq e h1 f hx
        have h2 := (X.base.sd _ _ hx hd).1
        have xU := X.base.stU _ _ hx
        have h3 := H.small g M.gU _ xU h2 hn
        have h4 := H.small _ xU g M.gU hl hn.symm
        omega
      · exact h1
    obtain ⟨f1, e1, a1⟩ := X.base.i1
    obtain ⟨f2, e2, b2⟩ := X.base.i2
    obtain ⟨fg, eg, ag⟩ := reach H (fun f => f.a = true) keep_a X.base.stU M.gU hm N _ c1 f1 (Nat.le_refl _) e1 a1 M.g1
    obtain ⟨fg', eg', bg⟩ := reach H (fun f => f.b = true) keep_b X.base.stU M.gU hm N _ c2 f2 (Nat.le_refl _) e2 b2 M.g2
    rw [eg] at eg'; cases eg'
    have dg := nod fg eg
    refine ⟨hm, ?_, fg, eg, dg⟩
    have lg : fg.l = true := by
      rcases X.pr g fg eg with ⟨e, h1, rfl⟩ | ⟨_, h1⟩
      · have := hq e h1 fg eg; rw [dg] at this; cases this
      · exact h1 ag bg dg
    rcases X.base.cs with ⟨f', h1, h2, h3⟩ | ⟨h1, h2⟩
    · exact h3
    · have := h1 fg eg; rw [lg] at this; cases this
  · right
    refine ⟨hm, ?_⟩
    rcases X.base.cs with ⟨f', h1, h2, h3⟩ | ⟨h1, h2⟩
    · exfalso
      have z := (X.base.sa g f' h1 (X.base.l1 g f' h1 h2).2).2
      rcases z with h | h
      · exact hm (h ▸ M.mn1)
      · exact hm h
    · exact h2

/-- the start -/
theorem J.start (H : Hist U par stamp Le) (M : Meet U stamp Le c1 c2 g mn) {q : Qu} {st : St}
    (hq : ∀ e, q.has e ↔ e = (- stamp c1, c1) ∨ e = (- stamp c2, c2))
    (hst : st = St.put (St.put (fun _ => none) c1 ⟨true, false, false, false⟩) c2 (((St.put (fun _ => none) c1 ⟨true, false, false, false⟩) c2).getD Fl.zero |>.or ⟨false, true, false, false⟩)) :
    J U par stamp Le c1 c2 g mn q st [] := by
  have cases2 : ∀ x f, st x = some f → (x = c1 ∧ f.a = true ∧ f.d = false ∧ f.l = false ∧ (f.b = true → x = c2)) ∨ (x = c2 ∧ f.b = true ∧ f.d = false ∧ f.l = false ∧ (f.a = true → x = c1)) := by
    intro x f hx
    subst hst
    by_cases e : x = c2
    · subst e
      rw [St.put_self] at hx; cases hx
      right
      by_cases e2 : x = c1
      · subst e2
        rw [St.put_self]
        exact ⟨rfl, rfl, rfl, rfl, fun _ => rfl⟩
      · rw [St.put_ne _ _ e2]
        exact ⟨rfl, rfl, rfl, rfl, fun h => by cases h⟩
    · rw [St.put_ne _ _ e] at hx
      by_cases e2 : x = c1
      · subst e2
        rw [St.put_self] at hx; cases hx
        exact .inl ⟨rfl, rfl, rfl, rfl, fun h => by cases h⟩
      · rw [St.put_ne _ _ e2] at hx; cases hx
  have at2 : ∃ f, st c2 = some f ∧ f.b = true := by
    subst hst
    exact ⟨_, St.put_self .., by simp [Fl.or]⟩
  have at1 : ∃ f, st c1 = some f ∧ f.a = true := by
    subst hst
    by_cases e : c1 = c2
    · subst e
      refine ⟨_, St.put_self .., ?_⟩
      rw [St.put_self]; rfl
    · exact ⟨_, by rw [St.put_ne _ _ e]; exact St.put_self .., rfl⟩
  refine ⟨⟨fun e he => ?_, fun x f hx => ?_, fun x f hx h => ?_, fun x f hx h => ?_, fun x f hx h => ?_, fun x f hx => ?_, at1, at2, fun x f hx h => ?_, ?_⟩, fun x f hx => ?_⟩
  · rcases (hq e).mp he with rfl | rfl
    · obtain ⟨f, h, _⟩ := at1; exact ⟨rfl, f, h⟩
    · obtain ⟨f, h, _⟩ := at2; exact ⟨rfl, f, h⟩
  · rcases cases2 x f hx with ⟨rfl, _⟩ | ⟨rfl, _⟩
    · exact M.U1
    · exact M.U2
  · rcases cases2 x f hx with ⟨rfl, _⟩ | ⟨rfl, _, _, _, h2⟩
    · exact ⟨H.refl _ M.U1, .inl rfl⟩
    · have := h2 h; subst this; exact ⟨H.refl _ M.U1, .inl rfl⟩
  · rcases cases2 x f hx with ⟨rfl, _, _, _, h2⟩ | ⟨rfl, _⟩
    · have := h2 h; subst this; exact H.refl _ M.U2
    · exact H.refl _ M.U2
  · rcases cases2 x f hx with ⟨_, _, h2, _⟩ | ⟨_, _, h2, _⟩ <;> (rw [h2] at h; cases h)
  · rcases cases2 x f hx with ⟨_, h2, _⟩ | ⟨_, h2, _⟩
    · exact .inl h2
    · exact .inr h2
  · rcases cases2 x f hx with ⟨_, _, _, h2, _⟩ | ⟨_, _, _, h2, _⟩ <;> (rw [h2] at h; cases h)
  · right
    refine ⟨fun f hf => ?_, rfl⟩
    rcases cases2 g f hf with ⟨_, _, _, h2, _⟩ | ⟨_, _, _, h2, _⟩ <;> exact h2
  · left
    rcases cases2 x f hx with ⟨rfl, _⟩ | ⟨rfl, _⟩
    · exact ⟨_, (hq _).mpr (.inl rfl), rfl⟩
    · exact ⟨_, (hq _).mpr (.inr rfl), rfl⟩

/-- what is left to set: the measure -/
def left (U : List Int) (st : St) : Nat := (U.map fun u => 4 - (match st u with | some f => f.bits | none => 0)).sum
theorem left_put (U : List Int) (st : St) (k : Int) (f : Fl) (hk : k ∈ U) (h : (match st k with | some f => f.bits | none => 0) + 1 ≤ f.bits) : left U (st.put k f) + 1 ≤ left U st := by
  have le : ∀ (V : List Int), left V (st.put k f) ≤ left V st := by
    intro V
    induction V with
    | nil => exact Nat.le_refl _
    | cons u V ih =>
      simp only [left, List.map_cons, List.sum_cons] at ih ⊢
      refine Nat.add_le_add ?_ ih
      by_cases e : u = k
      · subst e; rw [St.put_self]; dsimp only; omega
      · rw [St.put_ne _ _ e]; exact Nat.le_refl _
  induction U with
  | nil => cases hk
  | cons u V ih =>
    have e0 : left (u :: V) (st.put k f) = (4 - (match st.put k f u with | some f => f.bits | none => 0)) + left V (st.put k f) := by simp [left]
    have e1 : left (u :: V) st = (4 - (match st u with | some f => f.bits | none => 0)) + left V st := by simp [left]
    rw [e0, e1]
    by_cases e : u = k
    · subst e
      rw [St.put_self]
      have := le V
      have := Fl.bits_le f
      dsimp only
      omega
    · rw [St.put_ne _ _ e]
      rcases List.mem_cons.mp hk with h1 | h1
      · exact absurd h1.symm e
      · have := ih h1; omega
theorem left_le (U : List Int) (st : St) : left U st ≤ 4 * U.length := by
  induction U with
  | nil => simp [left]
  | cons u V ih =>
    simp only [left, List.map_cons, List.sum_cons, List.length_cons] at ih ⊢
    omega
theorem left_mark (U : List Int) (st : St) (c : Int) (f : Fl) (hc : st c = some f) (cU : c ∈ U) (hm : Marks f = true) : left U (st.put c { f with l := true }) + 1 ≤ left U st := by
  refine left_put U st c _ cU ?_
  rw [hc]
  rcases f with ⟨a, b, d, l⟩
  revert hm
  cases a <;> cases b <;> cases d <;> cases l <;> decide
theorem left_relax (U : List Int) (st : St) (p : Int) (fl : Fl) (pU : p ∈ U) (h : fl.le ((st p).getD Fl.zero) = false) : left U (st.put p (((st p).getD Fl.zero).or fl)) + 1 ≤ left U st := by
  refine left_put U st p _ pU ?_
  cases hp : st p with
  | none =>
    rw [hp] at h
    have := Fl.or_bits h
    simpa [Fl.zero, Fl.bits] using this
  | some pf => rw [hp] at h; exact Fl.or_bits h
end
end Mine
end

section
/-! P2 -/
namespace Mine
abbrev PI := Int × Int
def plt (x y : PI) : Bool := decide (x.1 < y.1) || (decide (x.1 = y.1) && decide (x.2 < y.2))
theorem plt_iff {x y : PI} : plt x y = true ↔ x.1 < y.1 ∨ (x.1 = y.1 ∧ x.2 < y.2) := by simp [plt]
theorem plt_false {x y : PI} : plt x y = false ↔ y.1 < x.1 ∨ (x.1 = y.1 ∧ y.2 ≤ x.2) := by
  rw [← Bool.not_eq_true, plt_iff]; omega
theorem nlt_trans {x y z : PI} (h : plt y x = false) (h' : plt z y = false) : plt z x = false := by
  rw [plt_false] at *; omega
theorem nlt_of_lt {x y : PI} (h : plt x y = true) : plt y x = false := by
  rw [plt_iff] at h; rw [plt_false]; omega
theorem nlt_refl (x : PI) : plt x x = false := by rw [plt_false]; omega

def swapF (f : Nat → PI) (i j : Nat) : Nat → PI := fun k => if k = i then f j else if k = j then f i else f k
def setF (f : Nat → PI) (i : Nat) (e : PI) : Nat → PI := fun k => if k = i then e else f k
theorem swapF_l (f : Nat → PI) (i j : Nat) : swapF f i j i = f j := by simp [swapF]
theorem swapF_r (f : Nat → PI) (i j : Nat) : swapF f i j j = f i := by
  unfold swapF; by_cases h : j = i
  · rw [if_pos h, h]
  · rw [if_neg h, if_pos rfl]
theorem swapF_o (f : Nat → PI) {i j k : Nat} (h1 : k ≠ i) (h2 : k ≠ j) : swapF f i j k = f k := by simp [swapF, h1, h2]

def Heaped (f : Nat → PI) (n : Nat) : Prop := ∀ i, 0 < i → i < n → plt (f i) (f ((i - 1) / 2)) = false
/-- a heap but around pos (downwards) -/
structure HO (f : Nat → PI) (n pos : Nat) : Prop where
  rel : ∀ i, 0 < i → i < n → i ≠ pos → (i - 1) / 2 ≠ pos → plt (f i) (f ((i - 1) / 2)) = false
  over : ∀ i, 0 < i → i < n → (i - 1) / 2 = pos → 0 < pos → plt (f i) (f ((pos - 1) / 2)) = false
/-- a heap but at pos (upwards) -/
structure HU (f : Nat → PI) (n pos : Nat) : Prop where
  rel : ∀ i, 0 < i → i < n → i ≠ pos → plt (f i) (f ((i - 1) / 2)) = false
  over : ∀ i, 0 < i → i < n → (i - 1) / 2 = pos → 0 < pos → plt (f i) (f ((pos - 1) / 2)) = false

def childOf (f : Nat → PI) (n pos : Nat) : Nat := if 2 * pos + 1 + 1 < n ∧ plt (f (2 * pos + 1)) (f (2 * pos + 1 + 1)) = false then 2 * pos + 1 + 1 else 2 * pos + 1
theorem childOf_or (f : Nat → PI) (n pos : Nat) : childOf f n pos = 2 * pos + 1 ∨ childOf f n pos = 2 * pos + 2 := by
  unfold childOf; split <;> simp
theorem childOf_lt {f : Nat → PI} {n pos : Nat} (h : pos < n / 2) : childOf f n pos < n := by
  unfold childOf; split <;> omega
theorem childOf_least {f : Nat → PI} {n pos i : Nat} (h : pos < n / 2) (hi : i < n) (h0 : 0 < i) (hp : (i - 1) / 2 = pos) : plt (f i) (f (childOf f n pos)) = false := by
  have hi' : i = 2 * pos + 1 ∨ i = 2 * pos + 2 := by omega
  unfold childOf
  split
  · rename_i hc
    rcases hi' with rfl | rfl
    · exact hc.2
    · exact nlt_refl _
  · rename_i hc
    rcases hi' with rfl | rfl
    · exact nlt_refl _
    · have : plt (f (2 * pos + 1)) (f (2 * pos + 1 + 1)) = true := by
        cases h2 : plt (f (2 * pos + 1)) (f (2 * pos + 1 + 1)) with
        | true => rfl
        | false => exact absurd ⟨by omega, h2⟩ hc
      exact nlt_of_lt this

theorem HO.down {f : Nat → PI} {n pos : Nat} (X : HO f n pos) (h : pos < n / 2) : HO (swapF f (childOf f n pos) pos) n (childOf f n pos) := by
  have hc := childOf_or f n pos
  have hcl := childOf_lt (f := f) h
  have least := fun i a b c => childOf_least (f := f) (i := i) h a b c
  generalize childOf f n pos = c at *
  have hcp : (c - 1) / 2 = pos := by omega
  have hne : c ≠ pos := by omega
  refine ⟨fun i h0 hn h1 h2 => ?_, fun i h0 hn h1 h2 => ?_⟩
  · by_cases e : i = pos
    · subst e
      rw [swapF_r]
      rw [swapF_o f (by omega) (by omega)]
      exact X.over c (by omega) hcl hcp (by omega)
    · rw [swapF_o f h1 e]
      by_cases e2 : (i - 1) / 2 = pos
      · rw [e2, swapF_r]; exact least i hn h0 e2
      · rw [swapF_o f h2 e2]; exact X.rel i h0 hn e e2
  · rw [hcp, swapF_r]
    rw [swapF_o f (by omega) (by omega)]
    have := X.rel i h0 hn (by omega) (by omega)
    rw [h1] at this; exact this
theorem HO.leaf {f : Nat → PI} {n pos : Nat} (X : HO f n pos) (h : ¬ pos < n / 2) : HU f n pos := by
  refine ⟨fun i h0 hn h1 => X.rel i h0 hn h1 (by omega), X.over⟩
theorem HU.up {f : Nat → PI} {n pos : Nat} (X : HU f n pos) (h0 : 0 < pos) (hn : pos < n) (h : plt (f pos) (f ((pos - 1) / 2)) = true) : HU (swapF f ((pos - 1) / 2) pos) n ((pos - 1) / 2) := by
  have hlt : (pos - 1) / 2 < pos := by omega
  generalize hp : (pos - 1) / 2 = p at *
  have hne : p ≠ pos := by omega
  refine ⟨fun i i0 hi h1 => ?_, fun i i0 hi h1 h2 => ?_⟩
  · by_cases e : i = pos
    · subst e
      rw [swapF_r, hp, swapF_l]
      exact nlt_of_lt h
    · rw [swapF_o f h1 e]
      by_cases e2 : (i - 1) / 2 = pos
      · rw [e2, swapF_r]
        have := X.over i i0 hi e2 h0
        rw [hp] at this; exact this
      · by_cases e3 : (i - 1) / 2 = p
        · rw [e3, swapF_l]
          have := X.rel i i0 hi e
          rw [e3] at this
          exact nlt_trans (nlt_of_lt h) this
        · rw [swapF_o f e3 e2]; exact X.rel i i0 hi e
  · have pp := X.rel p h2 (by omega) hne
    rw [swapF_o f (i := p) (j := pos) (k := (p - 1) / 2) (by omega) (by omega)]
    by_cases e : i = pos
    · subst e; rw [swapF_r]; exact pp
    · rw [swapF_o f (by omega) e]
      have := X.rel i i0 hi e
      rw [h1] at this
      exact nlt_trans pp this
theorem HU.top {f : Nat → PI} {n pos : Nat} (X : HU f n pos) (h : pos = 0 ∨ plt (f pos) (f ((pos - 1) / 2)) = false) : Heaped f n := by
  intro i h0 hn
  by_cases e : i = pos
  · subst e
    rcases h with h | h
    · omega
    · exact h
  · exact X.rel i h0 hn e
theorem Heaped.push {f : Nat → PI} {n : Nat} (X : Heaped f n) (e : PI) : HU (setF f n e) (n + 1) n := by
  refine ⟨fun i h0 hn h1 => ?_, fun i h0 hn h1 h2 => by omega⟩
  have := X i h0 (by omega)
  unfold setF
  rw [if_neg h1, if_neg (by omega)]; exact this
theorem Heaped.pop {f : Nat → PI} {n : Nat} (X : Heaped f (n + 1)) (h : 0 < n) : HO (setF f 0 (f n)) n 0 := by
  refine ⟨fun i h0 hn h1 h2 => ?_, fun i h0 hn h1 h2 => by omega⟩
  have := X i h0 (by omega)
  unfold setF
  rw [if_neg h1, if_neg h2]; exact this
theorem Heaped.min {f : Nat → PI} {n : Nat} (X : Heaped f n) : ∀ i, i < n → plt (f i) (f 0) = false := by
  intro i
  induction i using Nat.strongRecOn with
  | ind i ih =>
    intro hi
    by_cases h : i = 0
    · subst h; exact nlt_refl _
    · exact nlt_trans (ih _ (by omega) (by omega)) (X i (by omega) hi)

theorem swap_has {f : Nat → PI} {n i j : Nat} (hi : i < n) (hj : j < n) (e : PI) : Qu.has ⟨n, swapF f i j⟩ e ↔ Qu.has ⟨n, f⟩ e := by
  constructor
  · rintro ⟨k, hk, rfl⟩
    show ∃ _, _
    dsimp only at hk ⊢
    by_cases h1 : k = i
    · subst h1; exact ⟨j, hj, (swapF_l f k j).symm⟩
    · by_cases h2 : k = j
      · subst h2; exact ⟨i, hi, (swapF_r f i k).symm⟩
      · exact ⟨k, hk, (swapF_o f h1 h2).symm⟩
  · rintro ⟨k, hk, rfl⟩
    dsimp only at hk ⊢
    by_cases h1 : k = i
    · subst h1; exact ⟨j, hj, swapF_r f k j⟩
    · by_cases h2 : k = j
      · subst h2; exact ⟨i, hi, swapF_l f i k⟩
      · exact ⟨k, hk, swapF_o f h1 h2⟩
/-- two queues with the same entries -/
def Same (q q' : Qu) : Prop := q.n = q'.n ∧ ∀ e, q'.has e ↔ q.has e
theorem Same.refl (q : Qu) : Same q q := ⟨rfl, fun _ => Iff.rfl⟩
theorem Same.trans {q q' q'' : Qu} (h : Same q q') (h' : Same q' q'') : Same q q'' := ⟨h.1.trans h'.1, fun e => (h'.2 e).trans (h.2 e)⟩
theorem Same.swap {q : Qu} {f : Nat → PI} {n i j : Nat} (h : Same q ⟨n, f⟩) (hi : i < n) (hj : j < n) : Same q ⟨n, swapF f i j⟩ := ⟨h.1, fun e => (swap_has hi hj e).trans (h.2 e)⟩

theorem pushed_of {f : Nat → PI} {n : Nat} {e : PI} {q' : Qu} (h : Same ⟨n + 1, setF f n e⟩ q') : Pushed ⟨n, f⟩ q' e := by
  refine ⟨fun x => (h.2 x).trans ⟨?_, ?_⟩, h.1.symm⟩
  · rintro ⟨k, hk, rfl⟩
    dsimp only [setF] at hk ⊢
    by_cases e1 : k = n
    · rw [if_pos e1]; exact .inl rfl
    · rw [if_neg e1]; exact .inr ⟨k, by show k < n; omega, rfl⟩
  · rintro (rfl | ⟨k, hk, rfl⟩)
    · exact ⟨n, Nat.lt_succ_self _, by simp [setF]⟩
    · dsimp only at hk
      exact ⟨k, by show k < n + 1; omega, by show (if k = n then _ else _) = _; rw [if_neg (by omega)]⟩
theorem popped_of {f : Nat → PI} {n : Nat} {q' : Qu} (X : Heaped f (n + 1)) (h : (0 < n ∧ Same ⟨n, setF f 0 (f n)⟩ q') ∨ (n = 0 ∧ q'.n = 0)) : Popped ⟨n + 1, f⟩ q' (f 0) := by
  have least : ∀ x, Qu.has ⟨n + 1, f⟩ x → (f 0).1 ≤ x.1 := by
    rintro x ⟨k, hk, rfl⟩
    have := X.min k hk
    rw [plt_false] at this
    dsimp only
    omega
  rcases h with ⟨hn, h⟩ | ⟨rfl, h⟩
  · refine ⟨⟨0, Nat.succ_pos _, rfl⟩, fun x hx => ?_, fun x hx => ?_, least, by show q'.n + 1 = n + 1; rw [← h.1]⟩
    · obtain ⟨k, hk, rfl⟩ := (h.2 x).mp hx
      dsimp only [setF] at hk ⊢
      by_cases e : k = 0
      · rw [if_pos e]; exact ⟨n, Nat.lt_succ_self _, rfl⟩
      · rw [if_neg e]; exact ⟨k, by show k < n + 1; omega, rfl⟩
    · obtain ⟨k, hk, rfl⟩ := hx
      dsimp only at hk ⊢
      by_cases e : k = 0
      · subst e; exact .inl rfl
      · right
        refine (h.2 _).mpr ?_
        by_cases e2 : k = n
        · subst e2; exact ⟨0, hn, by simp [setF]⟩
        · exact ⟨k, by show k < n; omega, by simp [setF, e]⟩
  · refine ⟨⟨0, Nat.succ_pos _, rfl⟩, fun x hx => ?_, fun x hx => ?_, least, by show q'.n + 1 = 0 + 1; rw [h]⟩
    · obtain ⟨k, hk, _⟩ := hx; rw [h] at hk; exact absurd hk (Nat.not_lt_zero _)
    · obtain ⟨k, hk, rfl⟩ := hx
      dsimp only at hk
      have : k = 0 := by omega
      subst this; exact .inl rfl
end Mine
end

section
/-! Hd -/
open PySem PySem.W PyProof.Rows
set_option maxRecDepth 100000
set_option maxHeartbeats 8000000
namespace Mine
open_top hd for PySem.Challenge.rw_bh0017_01
end Mine
end

section
/-! B1 -/
open PySem PySem.W PySem.Calls PyProof.Rows
set_option maxRecDepth 100000
namespace Mine

section
variable {prog : Program} {w : World} {A : Around} {E : Value → Shared → Prop} {s : Shared}

/-- what a piece of the run may do to the state: X are the addresses that may change -/
structure Ext (X : List Addr) (s s' : Shared) : Prop where
  os : s'.os = s.os
  bare : AllBare s.gens → AllBare s'.gens
  keep : ∀ a o, a ∉ X → s.heap.get? a = some o → s'.heap.get? a = some o
theorem Ext.refl (X : List Addr) (s : Shared) : Ext X s s := ⟨rfl, id, fun _ _ _ e => e⟩
theorem Ext.trans {X Y Z : List Addr} {s s' s'' : Shared} (h : Ext X s s') (h' : Ext Y s' s'') (hX : ∀ a ∈ X, a ∈ Z) (hY : ∀ a ∈ Y, a ∈ Z) : Ext Z s s'' :=
  ⟨h'.os.trans h.os, fun b => h'.bare (h.bare b), fun a o n e => h'.keep a o (fun q => n (hY a q)) (h.keep a o (fun q => n (hX a q)) e)⟩
theorem Ext.mono {X Z : List Addr} {s s' : Shared} (h : Ext X s s') (hX : ∀ a ∈ X, a ∈ Z) : Ext Z s s' := ⟨h.os, h.bare, fun a o n e => h.keep a o (fun q => n (hX a q)) e⟩

theorem typeIs_tup {h : Heap} {a : Addr} {xs : Array Value} (x : IsTup h a xs) {s : Shared} (e : s.heap = h) : s.TypeIs (.ref a) "tuple" := by
  subst e; obtain ⟨o, ho, hc, _⟩ := x; exact ⟨o, ho, hc⟩
theorem tup_lt {x y : Addr} {a b c d : Int} {t1 t2 t3 t4 : Tok} {Q : Value → Shared → Prop} (hx : IsTup s.heap x #[.int a t1, .int b t2]) (hy : IsTup s.heap y #[.int c t3, .int d t4])
    (hu : A.units < cLine) (h : Q (.bool (plt (a, b) (c, d))) s) : wpAny (model prog w) A (richCompare .Lt (.ref x) (.ref y)) Q E s := by
  have tx := typeIs_tup hx (s := s) rfl
  have ty := typeIs_tup hy (s := s) rfl
  refine wpAny_richCompare_same_room tx ty PySem.F.slot_tuple_lt (wpAny_call_entry PySem.F.slot_tuple_lt tx PySem.F.entry_tuple_lt ?_ (PySem.F.args_tuple_lt_2 _ _)) hu
  obtain ⟨ox, ex, _, nx, dx⟩ := hx
  obtain ⟨oy, ey, _, ny, dy⟩ := hy
  unfold Builtin.«tuple.__lt__»
  iterate 11 lk
  refine wpAny_isInstance ty PySem.F.isi_self_tuple ?_
  simp only [Bool.not_true, Bool.false_eq_true, if_false]
  refine wpAny_bind (wpAny_bind (wpAny_seqItems ex dx (wpAny_pure ?_)))
  refine wpAny_bind (wpAny_bind (wpAny_seqItems ey dy (wpAny_pure ?_)))
  simp only [List.zip_cons_cons, List.zip_nil_left, List.forIn_cons, List.forIn_nil]
  have lt1 : ∀ (u v : Int) (tu tv : Tok) (R : Value → Shared → Prop), R (.bool (decide (u < v))) s → wpAny (model prog w) A.in1 (richCompare .Lt (.int u tu) (.int v tv)) R E s :=
    fun u v tu tv R hR => wpAny_lt_int hR
  refine wpAny_bind (wpAny_bind (wpAny_bind (wpAny_eqBool_int ?_)))
  cases e1 : (a == c) with
  | false =>
    simp only [Bool.not_false, if_true]
    refine wpAny_bind (wpAny_rule (wpAny_bind (lt1 _ _ _ _ _ (wpAny_bind (wpAny_pure (wpAny_pure (wpAny_pure (wpAny_pure ⟨_, rfl, by nofun, ?_⟩))))))))
    have : plt (a, b) (c, d) = decide (a < c) := by
      have := beq_eq_false_iff_ne.mp e1
      simp [plt, this]
    rw [← this]; exact h
  | true =>
    have e2 := eq_of_beq e1
    subst e2
    simp only [Bool.not_true, Bool.false_eq_true, if_false]
    refine wpAny_pure (wpAny_bind (wpAny_bind (wpAny_eqBool_int ?_)))
    cases e3 : (b == d) with
    | false =>
      simp only [Bool.not_false, if_true]
      refine wpAny_bind (wpAny_rule (wpAny_bind (lt1 _ _ _ _ _ (wpAny_bind (wpAny_pure (wpAny_pure (wpAny_pure (wpAny_pure ⟨_, rfl, by nofun, ?_⟩))))))))
      have : plt (a, b) (a, d) = decide (b < d) := by simp [plt]
      rw [← this]; exact h
    | true =>
      have e4 := eq_of_beq e3
      subst e4
      simp only [Bool.not_true, Bool.false_eq_true, if_false]
      refine wpAny_pure (wpAny_pure (wpAny_pure ⟨_, rfl, by nofun, ?_⟩))
      have : plt (a, b) (a, b) = false := by simp [plt]
      rw [this] at h
      exact h


def siftCode (a : Addr) (down : Bool) (pos top : Nat) (res : Value) (after : Int) : Code :=
  .builtin "_heapq.heapify.sift" ⟨[.ref a, .bool false, .bool down, rawInt pos, rawInt top, res, rawInt after], []⟩
/-- the list's items are the queue's entries, as tuples -/
def QuAt (h : Heap) (items : Array Value) (q : Qu) : Prop :=
  items.size = q.n ∧ ∀ i, i < q.n → ∃ a t u, items[i]? = some (.ref a) ∧ IsTup h a #[.int (q.f i).1 t, .int (q.f i).2 u]
theorem tup_but {h h' : Heap} {P a : Addr} {xs items : Array Value} (hP : h.IsList P items) (k : ∀ b o, b ≠ P → h.get? b = some o → h'.get? b = some o) (x : IsTup h a xs) : IsTup h' a xs := by
  obtain ⟨o, ho, hc, hd⟩ := x
  refine ⟨o, k a o (fun e => ?_) ho, hc, hd⟩
  subst e
  obtain ⟨o', ho', hc', _⟩ := hP
  rw [ho] at ho'; cases ho'
  rw [hc] at hc'
  injection hc' with e
  exact absurd e (by decide)
theorem QuAt.but {h h' : Heap} {P : Addr} {items its : Array Value} {q : Qu} (x : QuAt h items q) (hP : h.IsList P its) (k : ∀ b o, b ≠ P → h.get? b = some o → h'.get? b = some o) : QuAt h' items q :=
  ⟨x.1, fun i hi => let ⟨a, t, u, h1, h2⟩ := x.2 i hi; ⟨a, t, u, h1, tup_but hP k h2⟩⟩
theorem QuAt.keeps {h h' : Heap} {items : Array Value} {q : Qu} (x : QuAt h items q) (k : ∀ b o, h.get? b = some o → h'.get? b = some o) : QuAt h' items q :=
  ⟨x.1, fun i hi => let ⟨a, t, u, h1, h2⟩ := x.2 i hi; ⟨a, t, u, h1, h2.keeps k⟩⟩

/-- two entries of the queue, turned round -/
theorem swap_wp {P ai aj : Addr} {items : Array Value} {q : Qu} {i j : Nat} {Q : Unit → Shared → Prop} (hP : s.heap.IsList P items) (hq : QuAt s.heap items q) (hi : i < q.n) (hj : j < q.n) (hz : q.n ≤ sizeLine)
    (ei : items[i]? = some (.ref ai)) (ej : items[j]? = some (.ref aj))
    (h : ∀ h' items', h'.IsList P items' → QuAt h' items' ⟨q.n, swapF q.f i j⟩ → Heap.SameBut P s.heap h' → Q () { s with heap := h' }) :
    wpAny (model prog w) A (updateSeq P fun xs => (xs.setIfInBounds i (.ref aj)).setIfInBounds j (.ref ai)) Q E s := by
  have hP' := hP
  obtain ⟨o, ho, hc, n, hd⟩ := hP'
  have hsz : items.size ≤ sizeLine := hq.1 ▸ hz
  have hs : Heap.SameBut P s.heap (s.heap.update P (Obj.mapSeq fun xs => (xs.setIfInBounds i (.ref aj)).setIfInBounds j (.ref ai))) := Heap.SameBut.update ..
  have ge : (s.heap.update P (Obj.mapSeq fun xs => (xs.setIfInBounds i (.ref aj)).setIfInBounds j (.ref ai))).get? P = some (Obj.mapSeq (fun xs => (xs.setIfInBounds i (.ref aj)).setIfInBounds j (.ref ai)) o) := by
    refine Heap.get?_update_self _ ho ?_
    obtain ⟨c, d, dt, sl⟩ := o
    simp only at hd; subst hd; rfl
  have hl : (s.heap.update P (Obj.mapSeq fun xs => (xs.setIfInBounds i (.ref aj)).setIfInBounds j (.ref ai))).IsList P ((items.setIfInBounds i (.ref aj)).setIfInBounds j (.ref ai)) := by
    refine ⟨_, ge, ?_, ?_⟩
    · obtain ⟨c, d, dt, sl⟩ := o
      simp only at hd hc; subst hd; exact hc
    · obtain ⟨c, d, dt, sl⟩ := o
      simp only at hd; subst hd; exact ⟨_, rfl⟩
  refine wpAny_updateSeq ho hd (h _ _ hl ⟨by simp [hq.1], fun k hk => ?_⟩ hs) hsz (by simp only [Array.size_setIfInBounds]; omega)
  have base := hq.but hP (h' := s.heap.update P (Obj.mapSeq fun xs => (xs.setIfInBounds i (.ref aj)).setIfInBounds j (.ref ai))) fun b o hb e => (hs.2 b hb).trans e
  dsimp only at hk ⊢
  have si : i < items.size := by rw [hq.1]; exact hi
  have sj : j < items.size := by rw [hq.1]; exact hj
  by_cases h1 : k = j
  · subst h1
    obtain ⟨a, t, u, e1, e2⟩ := base.2 i hi
    rw [ei] at e1; cases e1
    refine ⟨ai, t, u, ?_, ?_⟩
    · rw [Array.getElem?_setIfInBounds_self_of_lt (by simpa using sj)]
    · rw [swapF_r]; exact e2
  · by_cases h2 : k = i
    · subst h2
      obtain ⟨a, t, u, e1, e2⟩ := base.2 j hj
      rw [ej] at e1; cases e1
      refine ⟨aj, t, u, ?_, ?_⟩
      · rw [Array.getElem?_setIfInBounds_ne (Ne.symm h1), Array.getElem?_setIfInBounds_self_of_lt si]
      · rw [swapF_l]; exact e2
    · obtain ⟨a, t, u, e1, e2⟩ := base.2 k hk
      refine ⟨a, t, u, ?_, ?_⟩
      · rw [Array.getElem?_setIfInBounds_ne (Ne.symm h1), Array.getElem?_setIfInBounds_ne (Ne.symm h2)]; exact e1
      · rw [swapF_o _ h2 h1]; exact e2

theorem sift_entry : entryFor table "_heapq.heapify.sift" = some Builtin.«_heapq.heapify.sift» := entryFor_of_tree (by kernel_rfl)
theorem sift_plain : plainId "_heapq.heapify.sift" = true := by decide +kernel
theorem sift_step {R : Result → Shared → Prop} {P : Addr} {down : Bool} {pos : Nat} {res : Value}
    (h : wpAny (model prog w) A.in1 (Builtin.«_heapq.heapify.sift» ⟨[.ref P, .bool false, .bool down, .int (pos : Int) 0, .int (0 : Nat) 0, res, .int (-1) 0], []⟩)
      (fun fin s' => match fin with | .done f => R (.ok f) s' | .again c' => c'.quiet = true ∧ codeAny (model prog w) A c' R s') (fun e s' => R (.error e) s') s) :
    codeAny (model prog w) A (siftCode P down pos 0 res (-1)) R s := by
  refine codeAny_builtin sift_entry ?_
  rw [Around.under_plainId sift_plain]
  exact h
theorem sift_quiet (P : Addr) (down : Bool) (pos top : Nat) (res : Value) (after : Int) : (siftCode P down pos top res after).quiet = true := plainId_quiet sift_plain _

theorem up_code {R : Result → Shared → Prop} {P : Addr} {res : Value} (hu : A.units + 1 < cLine) : ∀ (pos : Nat) {s : Shared} {items : Array Value} {q : Qu}, s.heap.IsList P items → QuAt s.heap items q → q.n ≤ sizeLine → pos < q.n → HU q.f q.n pos →
    (∀ h' items' f', h'.IsList P items' → QuAt h' items' ⟨q.n, f'⟩ → Heaped f' q.n → Same q ⟨q.n, f'⟩ → Heap.SameBut P s.heap h' → R (.ok (.ret res)) { s with heap := h' }) →
    codeAny (model prog w) A (siftCode P false pos 0 res (-1)) R s := by
  intro pos
  induction pos using Nat.strongRecOn with
  | ind pos ih =>
    intro s items q hP hq hz hpos X h
    obtain ⟨o, ho, hc, n, hd⟩ := id hP
    refine sift_step ?_
    unfold Builtin.«_heapq.heapify.sift»
    simp only [Bool.false_eq_true, if_false, Int.toNat_natCast]
    refine wpAny_bind (wpAny_bind (wpAny_seqItems ho hd (wpAny_pure ?_)))
    by_cases h0 : pos > 0
    · rw [if_pos h0]
      obtain ⟨a1, t1, u1, e1, x1⟩ := hq.2 pos hpos
      have hpar : (pos - 1) / 2 < q.n := by omega
      obtain ⟨a2, t2, u2, e2, x2⟩ := hq.2 ((pos - 1) / 2) hpar
      lk; lk; rw [e1]; refine wpAny_pure ?_
      lk; lk; rw [e2]; refine wpAny_pure ?_
      refine wpAny_bind (wpAny_bind (wpAny_holding (wpAny_bind (tup_lt x1 x2 hu (wpAny_pure (wpAny_bind (wpAny_bind (wpAny_seqItems ho hd (wpAny_pure ?_)))))))))
      simp only [bne_self_eq_false, Bool.false_eq_true, if_false]
      refine wpAny_pure ?_
      cases hl : plt (q.f pos) (q.f ((pos - 1) / 2)) with
      | true =>
        simp only [if_true]
        refine wpAny_bind (wpAny_bind (wpAny_bind (wpAny_seqItems ho hd (wpAny_pure ?_))))
        lk; lk; rw [e2]; refine wpAny_pure ?_
        lk; lk; rw [e1]; refine wpAny_pure ?_
        refine swap_wp hP hq hpar hpos hz e2 e1 fun h' items' hP' hq' hs => ?_
        refine wpAny_bind (wpAny_pure (wpAny_pure ⟨sift_quiet .., ?_⟩))
        refine ih ((pos - 1) / 2) (by omega) hP' hq' hz hpar (X.up h0 hpos hl) fun h'' items'' f' hP'' hq'' hh sm hs' => ?_
        exact h h'' items'' f' hP'' hq'' hh ((Same.refl q).swap hpar hpos |>.trans sm) (hs.trans hs')
      | false =>
        simp only [Bool.false_eq_true, if_false]
        rw [if_pos (by decide)]
        refine wpAny_bind (wpAny_pure (wpAny_pure ?_))
        exact h s.heap items q.f hP hq (X.top (.inr hl)) (Same.refl q) (Heap.SameBut.refl ..)
    · rw [if_neg h0]
      rw [if_pos (by decide)]
      refine wpAny_bind (wpAny_pure (wpAny_pure ?_))
      exact h s.heap items q.f hP hq (X.top (.inl (by omega))) (Same.refl q) (Heap.SameBut.refl ..)

theorem down_code {R : Result → Shared → Prop} {P : Addr} {res : Value} (hu : A.units + 1 < cLine) : ∀ (k pos : Nat) {s : Shared} {items : Array Value} {q : Qu}, q.n - pos ≤ k → s.heap.IsList P items → QuAt s.heap items q → q.n ≤ sizeLine → pos < q.n → HO q.f q.n pos →
    (∀ h' items' f', h'.IsList P items' → QuAt h' items' ⟨q.n, f'⟩ → Heaped f' q.n → Same q ⟨q.n, f'⟩ → Heap.SameBut P s.heap h' → R (.ok (.ret res)) { s with heap := h' }) →
    codeAny (model prog w) A (siftCode P true pos 0 res (-1)) R s := by
  intro k
  induction k with
  | zero => intro pos s items q hk hP hq hz hpos; omega
  | succ k ih =>
    intro pos s items q hk hP hq hz hpos X h
    obtain ⟨o, ho, hc, n, hd⟩ := id hP
    refine sift_step ?_
    unfold Builtin.«_heapq.heapify.sift»
    simp only [if_true, Int.toNat_natCast]
    refine wpAny_bind (wpAny_bind (wpAny_seqItems ho hd (wpAny_pure ?_)))
    rw [hq.1]
    by_cases h0 : pos < q.n / 2
    · rw [if_pos h0]
      have hcl := childOf_lt (f := q.f) h0
      have hcp := childOf_or q.f q.n pos
      obtain ⟨a0, t0, u0, e0, x0⟩ := hq.2 pos hpos
      have tail : ∀ c, childOf q.f q.n pos = c → ∀ {ai : Addr} {Q' : Unit → Shared → Prop} {E' : Value → Shared → Prop}, items[c]? = some (.ref ai) → (∀ s', codeAny (model prog w) A (siftCode P true c 0 res (-1)) R s' → Q' () s') →
          wpAny (model prog w) A.in1 (updateSeq P fun xs => (xs.setIfInBounds c (.ref a0)).setIfInBounds pos (.ref ai)) Q' E' s := by
        intro c hc ai Q' E' ec hQ
        subst hc
        refine swap_wp hP hq hcl hpos hz ec e0 fun h' items' hP' hq' hs => hQ _ ?_
        refine ih (childOf q.f q.n pos) (by dsimp only; omega) hP' hq' hz hcl (X.down h0) fun h'' items'' f' hP'' hq'' hh sm hs' => ?_
        exact h h'' items'' f' hP'' hq'' hh ((Same.refl q).swap hcl hpos |>.trans sm) (hs.trans hs')
      by_cases h1 : 2 * pos + 1 + 1 < q.n
      · simp only [if_pos h1]
        obtain ⟨a1, t1, u1, e1, x1⟩ := hq.2 (2 * pos + 1) (by omega)
        obtain ⟨a2, t2, u2, e2, x2⟩ := hq.2 (2 * pos + 1 + 1) h1
        lk; lk; rw [e1]; refine wpAny_pure ?_
        lk; lk; rw [e2]; refine wpAny_pure ?_
        refine wpAny_bind (wpAny_bind (wpAny_holding (wpAny_bind (tup_lt x1 x2 hu (wpAny_pure (wpAny_bind (wpAny_bind (wpAny_seqItems ho hd (wpAny_pure ?_)))))))))
        rw [hq.1]
        simp only [bne_self_eq_false, Bool.false_eq_true, if_false]
        refine wpAny_pure ?_
        cases hl : plt (q.f (2 * pos + 1)) (q.f (2 * pos + 1 + 1)) with
        | true =>
          simp only [Bool.not_true, Bool.false_eq_true, if_false]
          refine wpAny_bind (wpAny_bind (wpAny_bind (wpAny_seqItems ho hd (wpAny_pure ?_))))
          lk; lk; rw [e1]; refine wpAny_pure ?_
          lk; lk; rw [e0]; refine wpAny_pure ?_
          exact tail _ (by unfold childOf; rw [if_neg (by rw [hl]; simp)]) e1 fun s' hs => wpAny_bind (wpAny_pure (wpAny_pure ⟨sift_quiet .., hs⟩))
        | false =>
          simp only [Bool.not_false, if_true]
          refine wpAny_bind (wpAny_bind (wpAny_bind (wpAny_seqItems ho hd (wpAny_pure ?_))))
          lk; lk; rw [e2]; refine wpAny_pure ?_
          lk; lk; rw [e0]; refine wpAny_pure ?_
          exact tail _ (by unfold childOf; rw [if_pos ⟨h1, hl⟩]) e2 fun s' hs => wpAny_bind (wpAny_pure (wpAny_pure ⟨sift_quiet .., hs⟩))
      · simp only [if_neg h1]
        obtain ⟨a1, t1, u1, e1, x1⟩ := hq.2 (2 * pos + 1) (by omega)
        refine wpAny_bind (wpAny_bind (wpAny_bind (wpAny_seqItems ho hd (wpAny_pure ?_))))
        lk; lk; rw [e1]; refine wpAny_pure ?_
        lk; lk; rw [e0]; refine wpAny_pure ?_
        exact tail _ (by unfold childOf; rw [if_neg (fun x => h1 x.1)]) e1 fun s' hs => wpAny_bind (wpAny_pure (wpAny_pure ⟨sift_quiet .., hs⟩))
    · rw [if_neg h0]
      refine wpAny_bind (wpAny_pure (wpAny_pure ⟨sift_quiet .., ?_⟩))
      exact up_code hu pos hP hq hz hpos (X.leaf h0) h
end
end Mine
end

section
/-! B2 -/
open PySem PySem.W PySem.Calls PyProof.Rows
set_option maxRecDepth 100000
namespace Mine
section
variable {prog : Program} {w : World} {A : Around} {E : Value → Shared → Prop} {s : Shared}
theorem push_entry : entryFor table "_heapq.heappush" = some Builtin.«_heapq.heappush» := entryFor_of_tree (by kernel_rfl)
theorem push_plain : plainId "_heapq.heappush" = true := by decide +kernel
theorem push_kind : builtinKind "_heapq.heappush" = none := by decide +kernel
theorem push_args (a b : Value) : argsOk "_heapq.heappush" ⟨[a, b], []⟩ := by unfold argsOk; kernel_rfl
theorem pop_entry : entryFor table "_heapq.heappop" = some Builtin.«_heapq.heappop» := entryFor_of_tree (by kernel_rfl)
theorem pop_plain : plainId "_heapq.heappop" = true := by decide +kernel
theorem pop_kind : builtinKind "_heapq.heappop" = none := by decide +kernel
theorem pop_args (a : Value) : argsOk "_heapq.heappop" ⟨[a], []⟩ := by unfold argsOk; kernel_rfl
theorem typeIs_list {h : Heap} {a : Addr} {xs : Array Value} (x : h.IsList a xs) {s : Shared} (e : s.heap = h) : s.TypeIs (.ref a) "list" := by
  subst e; obtain ⟨o, ho, hc, _⟩ := x; exact ⟨o, ho, hc⟩

/-- a list's items turned by a pure function -/
theorem seq_wp {P : Addr} {items : Array Value} {f : Array Value → Array Value} {Q : Unit → Shared → Prop} (hP : s.heap.IsList P items) (hz : items.size ≤ sizeLine) (hz' : (f items).size ≤ sizeLine + 1)
    (h : ∀ h', h'.IsList P (f items) → Heap.SameBut P s.heap h' → Q () { s with heap := h' }) : wpAny (model prog w) A (updateSeq P f) Q E s := by
  obtain ⟨o, ho, hc, n, hd⟩ := hP
  have hs : Heap.SameBut P s.heap (s.heap.update P (Obj.mapSeq f)) := Heap.SameBut.update ..
  have ge : (s.heap.update P (Obj.mapSeq f)).get? P = some (Obj.mapSeq f o) := by
    refine Heap.get?_update_self _ ho ?_
    obtain ⟨c, d, dt, sl⟩ := o
    simp only at hd; subst hd; rfl
  have hl : (s.heap.update P (Obj.mapSeq f)).IsList P (f items) := by
    refine ⟨_, ge, ?_, ?_⟩
    · obtain ⟨c, d, dt, sl⟩ := o
      simp only at hd hc; subst hd; exact hc
    · obtain ⟨c, d, dt, sl⟩ := o
      simp only at hd; subst hd; exact ⟨_, rfl⟩
  exact wpAny_updateSeq ho hd (h _ hl hs) hz hz'

theorem heappush_wp {P it : Addr} {items : Array Value} {q : Qu} {e : PI} {t u : Tok} {Q : Value → Shared → Prop} (hu : A.units + 3 < cLine) (hP : s.heap.IsList P items) (hq : QuAt s.heap items q) (hh : Heaped q.f q.n) (hz : q.n < sizeLine)
    (hi : IsTup s.heap it #[.int e.1 t, .int e.2 u])
    (h : ∀ h' items' q', h'.IsList P items' → QuAt h' items' q' → Heaped q'.f q'.n → Pushed q q' e → Heap.SameBut P s.heap h' → Q .none { s with heap := h' }) :
    wpAny (model prog w) A (call (.builtin "_heapq.heappush") [.ref P, .ref it]) Q E s := by
  refine wpAny_call (codeAny_call_builtin push_plain push_entry ?_)
  simp only [checkBuiltinCall, push_kind]
  have ha := push_args (.ref P) (.ref it)
  have fin : wpAny (model prog w) A.in1 (Builtin.«_heapq.heappush» ⟨[.ref P, .ref it], []⟩) (fun fin s' => match fin with
      | .done f => (match (Except.ok f : Result) with | .ok (.ret v) => Q v s' | .ok _ => False | .error e => E e s')
      | .again c' => c'.quiet = true ∧ codeAny (model prog w) A c' (fun r s' => match r with | .ok (.ret v) => Q v s' | .ok _ => False | .error e => E e s') s')
      (fun e s' => E e s') s := by
    unfold Builtin.«_heapq.heappush»
    lk; lk; lk; lk; lk; lk; lk; lk; lk; lk; lk; lk; lk; lk; lk; lk; lk; lk; lk; lk
    refine wpAny_isInstance (typeIs_list hP rfl) PySem.F.sub_list_list ?_
    refine wpAny_pure (wpAny_pure ?_)
    have hsz : items.size ≤ sizeLine := by rw [hq.1]; omega
    have hP2 := hP
    refine wpAny_bind (seq_wp hP hsz (by simp only [Array.size_push]; omega) fun h' hP' hs => ?_)
    obtain ⟨oh, hoh, _, nh, hdh⟩ := id hP'
    refine wpAny_bind (wpAny_bind (wpAny_seqItems hoh hdh (wpAny_pure ?_)))
    refine wpAny_pure ⟨sift_quiet .., ?_⟩
    have e1 : (items.push (.ref it)).size - 1 = q.n := by simp [hq.1]
    rw [e1]
    have hq' : QuAt h' (items.push (.ref it)) ⟨q.n + 1, setF q.f q.n e⟩ := by
      refine ⟨by simp [hq.1], fun k hk => ?_⟩
      dsimp only at hk ⊢
      have kk : ∀ b o, b ≠ P → s.heap.get? b = some o → h'.get? b = some o := fun b o hb e => (hs.2 b hb).trans e
      by_cases hkn : k = q.n
      · subst hkn
        refine ⟨it, t, u, ?_, ?_⟩
        · rw [← hq.1]; simp
        · simp only [setF, if_true]; exact tup_but hP2 kk hi
      · obtain ⟨a, t', u', h1, h2⟩ := hq.2 k (by omega)
        refine ⟨a, t', u', ?_, ?_⟩
        · rw [Array.getElem?_push_lt (by rw [hq.1]; omega)]
          have := Array.getElem?_eq_some_iff.mp h1
          obtain ⟨_, e2⟩ := this
          rw [e2]
        · simp only [setF, hkn, if_false]; exact tup_but hP2 kk h2
    refine up_code (by show A.units + 1 < cLine; omega) q.n hP' hq' (by show q.n + 1 ≤ sizeLine; omega) (Nat.lt_succ_self _) (hh.push e) fun h'' items' f' hP'' hq'' hh'' sm hs' => ?_
    exact h h'' items' ⟨q.n + 1, f'⟩ hP'' hq'' hh'' (pushed_of sm) (hs.trans hs')
  cases hsig : Manifest.signature? "_heapq.heappush" with
  | none => exact wpAny_pure fin
  | some sig =>
    simp only [argsOk, hsig] at ha
    have h2 : Bind.checkArgs "_heapq.heappush" sig ⟨[.ref P, .ref it], []⟩ = pure () := ha
    show wpAny _ A.in1 (Bind.checkArgs "_heapq.heappush" sig ⟨[.ref P, .ref it], []⟩) _ _ s
    rw [h2]; exact wpAny_pure fin

theorem heappop_wp {P : Addr} {items : Array Value} {q : Qu} {Q : Value → Shared → Prop} (hu : A.units + 3 < cLine) (hP : s.heap.IsList P items) (hq : QuAt s.heap items q) (hh : Heaped q.f q.n) (hz : q.n ≤ sizeLine) (h0 : 0 < q.n)
    (h : ∀ h' items' q' it t u, h'.IsList P items' → QuAt h' items' q' → Heaped q'.f q'.n → Popped q q' (q.f 0) → Heap.SameBut P s.heap h' → IsTup s.heap it #[.int (q.f 0).1 t, .int (q.f 0).2 u] → Q (.ref it) { s with heap := h' }) :
    wpAny (model prog w) A (call (.builtin "_heapq.heappop") [.ref P]) Q E s := by
  refine wpAny_call (codeAny_call_builtin pop_plain pop_entry ?_)
  simp only [checkBuiltinCall, pop_kind]
  have ha := pop_args (.ref P)
  have fin : wpAny (model prog w) A.in1 (Builtin.«_heapq.heappop» ⟨[.ref P], []⟩) (fun fin s' => match fin with
      | .done f => (match (Except.ok f : Result) with | .ok (.ret v) => Q v s' | .ok _ => False | .error e => E e s')
      | .again c' => c'.quiet = true ∧ codeAny (model prog w) A c' (fun r s' => match r with | .ok (.ret v) => Q v s' | .ok _ => False | .error e => E e s') s')
      (fun e s' => E e s') s := by
    unfold Builtin.«_heapq.heappop»
    lk; lk; lk; lk; lk; lk; lk; lk; lk; lk; lk; lk; lk; lk; lk
    refine wpAny_isInstance (typeIs_list hP rfl) PySem.F.sub_list_list ?_
    refine wpAny_pure (wpAny_pure ?_)
    obtain ⟨m, hm⟩ : ∃ m, q.n = m + 1 := ⟨q.n - 1, by omega⟩
    obtain ⟨al, tl, ul, el, xl⟩ := hq.2 m (by omega)
    obtain ⟨a0, t0, u0, e0, x0⟩ := hq.2 0 h0
    have hsz : items.size = m + 1 := hq.1.trans hm
    have hback : items.back? = some (.ref al) := by rw [Array.back?_eq_getElem?, hsz]; exact el
    obtain ⟨oh, hoh, _, nh, hdh⟩ := id hP
    refine wpAny_bind (wpAny_bind (wpAny_seqItems hoh hdh (wpAny_pure ?_)))
    rw [hback]
    dsimp only
    have hP2 := hP
    refine wpAny_bind (seq_wp hP (by omega) (by simp only [Array.size_pop]; omega) fun h' hP' hs => ?_)
    have kk : ∀ b o, b ≠ P → s.heap.get? b = some o → h'.get? b = some o := fun b o hb e => (hs.2 b hb).trans e
    have popget : ∀ k, k < m → (items.pop)[k]? = items[k]? := fun k hk => by
      rw [Array.getElem?_pop, if_pos (by omega)]
    by_cases hm0 : m = 0
    · subst hm0
      have : (items.size == 1) = true := by rw [hsz]; rfl
      rw [if_pos this]
      rw [el] at e0; cases e0
      refine wpAny_pure ?_
      refine h h' _ ⟨0, q.f⟩ al tl ul hP' ⟨by simp [hsz], fun k hk => absurd hk (Nat.not_lt_zero _)⟩ (fun i _ hi => absurd hi (Nat.not_lt_zero _)) ?_ hs xl
      have hq0 : q = ⟨0 + 1, q.f⟩ := by rcases q with ⟨n, f⟩; simp only at hm; subst hm; rfl
      rw [hq0]
      exact popped_of (by rw [hq0] at hh; exact hh) (.inr ⟨rfl, rfl⟩)
    · have : ¬ (items.size == 1) = true := by rw [hsz]; simp; omega
      rw [if_neg this]
      lk; lk; rw [e0]; refine wpAny_pure ?_
      refine wpAny_bind (seq_wp hP' (by simp only [Array.size_pop]; omega) (by simp only [Array.size_setIfInBounds, Array.size_pop]; omega) fun h'' hP'' hs' => ?_)
      refine wpAny_pure ⟨sift_quiet .., ?_⟩
      have kk' : ∀ b o, b ≠ P → s.heap.get? b = some o → h''.get? b = some o := fun b o hb e => (hs'.2 b hb).trans (kk b o hb e)
      have hq0 : q = ⟨m + 1, q.f⟩ := by rcases q with ⟨n, f⟩; simp only at hm; subst hm; rfl
      have hq' : QuAt h'' (items.pop.setIfInBounds 0 (.ref al)) ⟨m, setF q.f 0 (q.f m)⟩ := by
        refine ⟨by simp [hsz], fun k hk => ?_⟩
        dsimp only at hk ⊢
        by_cases hk0 : k = 0
        · subst hk0
          refine ⟨al, tl, ul, ?_, ?_⟩
          · rw [Array.getElem?_setIfInBounds_self_of_lt (by simp [hsz]; omega)]
          · simp only [setF, if_true]; exact tup_but hP2 kk' xl
        · obtain ⟨a, t', u', h1, h2⟩ := hq.2 k (by omega)
          refine ⟨a, t', u', ?_, ?_⟩
          · rw [Array.getElem?_setIfInBounds_ne (Ne.symm hk0), popget k hk]; exact h1
          · simp only [setF, hk0, if_false]; exact tup_but hP2 kk' h2
      have hh' : Heaped q.f (m + 1) := by rw [hq0] at hh; exact hh
      refine down_code (by show A.units + 1 < cLine; omega) m 0 (by show m - 0 ≤ m; omega) hP'' hq' (by show m ≤ sizeLine; omega) (by show 0 < m; omega) (hh'.pop (by omega)) fun h3 items' f' hP3 hq3 hh3 sm hs3 => ?_
      refine h h3 items' ⟨m, f'⟩ a0 t0 u0 hP3 hq3 hh3 ?_ ((hs.trans hs').trans hs3) x0
      rw [hq0]
      exact popped_of hh' (.inl ⟨by omega, sm⟩)
  cases hsig : Manifest.signature? "_heapq.heappop" with
  | none => exact wpAny_pure fin
  | some sig =>
    simp only [argsOk, hsig] at ha
    have h2 : Bind.checkArgs "_heapq.heappop" sig ⟨[.ref P], []⟩ = pure () := ha
    show wpAny _ A.in1 (Bind.checkArgs "_heapq.heappop" sig ⟨[.ref P], []⟩) _ _ s
    rw [h2]; exact wpAny_pure fin
end
end Mine
end

section
/-! B3 -/
open PySem PySem.W PySem.Calls PyProof.Rows
set_option maxRecDepth 100000
namespace Mine
abbrev prg : Program := PySem.Challenge.pw_bh0017_01
noncomputable abbrev KK (w : World) : Frag := hd.heap_39 w.params

structure Gd (w : World) (mg mb : Str → Option Value) (h : Heap) : Prop where
  X : (KK w).In h
  G : h.Ns mainGlobals mg
  B : h.Ns builtinsNs mb
  BB : ∀ x : Str, x ≠ "__name__" → mb x = bootBuiltins x
  NL : h.NoLimit
  M : mg "__builtins__" = some (.ref 4) ∧ ∃ ob, h.get? 4 = some ob ∧ ob.cls = .type "module" ∧ ob.dict = some builtinsNs ∧ ob.data = .plain
theorem k87 (w : World) : (KK w).lookup 87 = none := by kernel_rfl
theorem k128 (w : World) : (KK w).lookup 128 = none := by kernel_rfl
/-- the top is kept by whatever leaves all but the two tables of code objects as it is -/
theorem Gd.kpT {w : World} {mg mb : Str → Option Value} {h h' : Heap} (g : Gd w mg mb h) (k : ∀ b o, b ≠ 87 → b ≠ 128 → h.get? b = some o → h'.get? b = some o) : Gd w mg mb h' := by
  have ns : ∀ {a : Addr} {m : Str → Option Value}, a ≠ 87 → a ≠ 128 → h.Ns a m → h'.Ns a m := fun h1 h2 ⟨o, es, ep, e, r⟩ => ⟨o, es, ep, k _ o h1 h2 e, r⟩
  refine ⟨fun a o e => k a o (fun z => ?_) (fun z => ?_) (g.X a o e), ns (by decide) (by decide) g.G, ns (by decide) (by decide) g.B, g.BB, ?_, g.M.1, ?_⟩
  · rw [z, k87] at e; cases e
  · rw [z, k128] at e; cases e
  · obtain ⟨mc, n, e⟩ := g.NL; exact ⟨mc, ns (by decide) (by decide) n, e⟩
  · obtain ⟨ob, e, r⟩ := g.M.2; exact ⟨ob, k 4 ob (by decide) (by decide) e, r⟩
theorem Gd.keeps {w : World} {mg mb : Str → Option Value} {h h' : Heap} (g : Gd w mg mb h) (k : ∀ b o, h.get? b = some o → h'.get? b = some o) : Gd w mg mb h' :=
  g.kpT fun b o _ _ e => k b o e

def fdM (qual : Str) (code : Addr) (dflt pm : Value) : Stmt → FuncData
  | .FunctionDef name args body _ _ _ scope _ _ _ => { name, qualname := qual, params := args, body := .stmts body, scope, globals := mainGlobals, closure := [], defaults := dflt, kwdefaults := .none, doc := .none, pyModule := pm, annotations := none, code := .ref code, closureTuple := .none, builtins := builtinsNs }
  | _ => default
def bodyM : Stmt → List Stmt
  | .FunctionDef _ _ body _ _ _ _ _ _ _ => body
  | _ => []
def topSt (i : Nat) : Stmt := prg.main.body.getD i (.Pass ⟨0, 0, 0, 0⟩)
def clsSt (i : Nat) : Stmt := match topSt 2 with
  | .ClassDef _ _ _ body _ _ _ _ _ _ _ => body.getD i (.Pass ⟨0, 0, 0, 0⟩)
  | _ => .Pass ⟨0, 0, 0, 0⟩
def dul : Value := .str "dulwich.graph" 322
def lawMod : Value := .str "law_bh0017_01" 430
def fdInit : FuncData := fdM "WorkList.__init__" 55 .none dul (clsSt 0)
def fdAdd : FuncData := fdM "WorkList.add" 62 .none dul (clsSt 1)
def fdGet : FuncData := fdM "WorkList.get" 69 .none dul (clsSt 2)
def fdIter : FuncData := fdM "WorkList.iter" 76 .none dul (clsSt 3)
def fdFind : FuncData := fdM "_find_lcas" 89 (.ref 85) dul (topSt 3)
def fdMerge : FuncData := fdM "find_merge_base" 96 .none dul (topSt 4)
def fdOcto : FuncData := fdM "find_octopus_base" 103 .none dul (topSt 5)
def fdFast : FuncData := fdM "can_fast_forward" 110 .none dul (topSt 6)
def fdAtt : FuncData := fdM "_law_at" 118 .none lawMod (topSt 9)
def fdDiv : FuncData := fdM "_law_divisor" 125 .none lawMod (topSt 10)
def fdLaw : FuncData := fdM "law" 130 .none lawMod (topSt 11)
def fnO (fd : FuncData) : Obj := { cls := .type "function", data := .func fd }
theorem k56 (w : World) : (KK w).lookup 56 = some (fnO fdInit) := by kernel_rfl
theorem k63 (w : World) : (KK w).lookup 63 = some (fnO fdAdd) := by kernel_rfl
theorem k70 (w : World) : (KK w).lookup 70 = some (fnO fdGet) := by kernel_rfl
theorem k77 (w : World) : (KK w).lookup 77 = some (fnO fdIter) := by kernel_rfl
theorem k90 (w : World) : (KK w).lookup 90 = some (fnO fdFind) := by kernel_rfl
theorem k97 (w : World) : (KK w).lookup 97 = some (fnO fdMerge) := by kernel_rfl
theorem k104 (w : World) : (KK w).lookup 104 = some (fnO fdOcto) := by kernel_rfl
theorem k111 (w : World) : (KK w).lookup 111 = some (fnO fdFast) := by kernel_rfl
theorem k119 (w : World) : (KK w).lookup 119 = some (fnO fdAtt) := by kernel_rfl
theorem k126 (w : World) : (KK w).lookup 126 = some (fnO fdDiv) := by kernel_rfl
theorem k131 (w : World) : (KK w).lookup 131 = some (fnO fdLaw) := by kernel_rfl
theorem c55 (w : World) : codeIn (KK w) (.ref 55) "WorkList.__init__" = true := by kernel_rfl
theorem c62 (w : World) : codeIn (KK w) (.ref 62) "WorkList.add" = true := by kernel_rfl
theorem c69 (w : World) : codeIn (KK w) (.ref 69) "WorkList.get" = true := by kernel_rfl
theorem c76 (w : World) : codeIn (KK w) (.ref 76) "WorkList.iter" = true := by kernel_rfl
theorem c89 (w : World) : codeIn (KK w) (.ref 89) "_find_lcas" = true := by kernel_rfl
theorem c96 (w : World) : codeIn (KK w) (.ref 96) "find_merge_base" = true := by kernel_rfl
theorem c103 (w : World) : codeIn (KK w) (.ref 103) "find_octopus_base" = true := by kernel_rfl
theorem c110 (w : World) : codeIn (KK w) (.ref 110) "can_fast_forward" = true := by kernel_rfl
theorem c118 (w : World) : codeIn (KK w) (.ref 118) "_law_at" = true := by kernel_rfl
theorem c125 (w : World) : codeIn (KK w) (.ref 125) "_law_divisor" = true := by kernel_rfl
theorem c130 (w : World) : codeIn (KK w) (.ref 130) "law" = true := by kernel_rfl
def upd (m : Str → Option Value) (x : Str) (v : Value) : Str → Option Value := fun y => if y = x then some v else m y

theorem itT {b : Bool} {a c : Prop} (h : b = true) (x : a) : (if b = true then a else c) := by rw [if_pos h]; exact x
theorem itF {b : Bool} {a c : Prop} (h : b = false) (x : c) : (if b = true then a else c) := by rw [if_neg (by rw [h]; exact Bool.false_ne_true)]; exact x
/-- a next state: only the heap and the counters have moved -/
structure Nx (s s' : Shared) : Prop where
  gens : s'.gens = s.gens
  os : s'.os = s.os
theorem Nx.refl (s : Shared) : Nx s s := ⟨rfl, rfl⟩
theorem Nx.trans {s s' s'' : Shared} (h : Nx s s') (h' : Nx s' s'') : Nx s s'' := ⟨h'.gens.trans h.gens, h'.os.trans h.os⟩
/-- all that is, stays -/
abbrev Kp (s s' : Shared) : Prop := ∀ b o, s.heap.get? b = some o → s'.heap.get? b = some o
abbrev KpB (a : Addr) (s s' : Shared) : Prop := ∀ b o, b ≠ a → s.heap.get? b = some o → s'.heap.get? b = some o
theorem KpB.new {s s' : Shared} (k : KpB s.heap.objs.size s s') : Kp s s' := fun b o e => k b o (Nat.ne_of_lt (Heap.lt_size e)) e

section
variable {prog : Program} {w : World} {A : Around} {E : Value → Shared → Prop} {s : Shared} {mg mb : Str → Option Value} {env : Env}

theorem nmL {x : Str} {pos : Pos} {v : Value} {m : Str → Option Value} {L : Addr} {Q : Value → Shared → Prop} (ns : s.heap.Ns L m) (hv : m x = some v) (h : Q v s)
    (hL : env.locals = L := by rfl) (hk : env.scope.kind = .function := by rfl) (hl : env.kindOf x = some .local := by rfl) (hd : (x == ("__debug__" : Str)) = false := by decide) :
    wpAny (model prog w) A (eval (.Name x pos) env) Q E s := wpAny_Name (wpAny_loadName_local hk hl (hL ▸ ns) hv h) hd
theorem stL {x : Str} {v : Value} {m : Str → Option Value} {L : Addr} {Q : Unit → Shared → Prop} (ns : s.heap.Ns L m)
    (h : ∀ s', Nx s s' → s'.heap.Ns L (upd m x v) → KpB L s s' → Q () s')
    (hL : env.locals = L := by rfl) (hk : env.scope.kind = .function := by rfl) (hl : env.kindOf x = some .local := by rfl) :
    wpAny (model prog w) A (storeName env x v) Q E s := by
  subst hL
  refine wpAny_storeName_local hl ns (fun h' n b => h _ ⟨rfl, rfl⟩ n fun a o ha e => (b.2 a ha).trans e) ?_
  rw [hk]; rfl
theorem nmG {x : Str} {pos : Pos} {v : Value} {Q : Value → Shared → Prop} (gd : Gd w mg mb s.heap) (e : nsIn (KK w) mainGlobals x = some (some v)) (h : Q v s)
    (hg : env.globals = mainGlobals := by rfl) (hk : env.scope.kind = .function := by rfl) (hl : env.kindOf x = some .globalImplicit := by rfl) (hd : (x == ("__debug__" : Str)) = false := by decide) :
    wpAny (model prog w) A (eval (.Name x pos) env) Q E s :=
  Name_function_global hk hl (loadGlobal_global (by rw [hg]; exact gd.G) (mg_of gd.X gd.G e) h) hd
theorem nmB {x : Str} {pos : Pos} {v : Value} {Q : Value → Shared → Prop} (gd : Gd w mg mb s.heap) (e : nsIn (KK w) mainGlobals x = some none) (hv : bootBuiltins x = some v) (hn : x ≠ "__name__") (h : Q v s)
    (hg : env.globals = mainGlobals := by rfl) (hb : env.builtins = builtinsNs := by rfl) (hk : env.scope.kind = .function := by rfl) (hl : env.kindOf x = some .globalImplicit := by rfl) (hd : (x == ("__debug__" : Str)) = false := by decide) :
    wpAny (model prog w) A (eval (.Name x pos) env) Q E s :=
  Name_function_global hk hl (loadGlobal_builtin (by rw [hg]; exact gd.G) (mg_none_of gd.X gd.G e) (by rw [hb]; exact gd.B) ((gd.BB x hn).trans hv) h) hd

theorem nmF {x : Str} {pos : Pos} {v : Value} {c : Addr} {Q : Value → Shared → Prop} (hv : s.heap.IsCell c (some v)) (h : Q v s)
    (hc : env.cells.lookup x = some c := by rfl) (hk : env.scope.kind = .function := by rfl) (hl : env.kindOf x = some .free := by rfl) (hd : (x == ("__debug__" : Str)) = false := by decide) (hn : (x == ("__classdict__" : Str)) = false := by decide) :
    wpAny (model prog w) A (eval (.Name x pos) env) Q E s := wpAny_Name (wpAny_loadName_free hk hl hc hv h hn) hd
theorem nmC {x : Str} {pos : Pos} {v : Value} {c : Addr} {Q : Value → Shared → Prop} (hv : s.heap.IsCell c (some v)) (h : Q v s)
    (hc : env.cells.lookup x = some c := by rfl) (hk : env.scope.kind = .function := by rfl) (hl : env.kindOf x = some .cell := by rfl) (hd : (x == ("__debug__" : Str)) = false := by decide) :
    wpAny (model prog w) A (eval (.Name x pos) env) Q E s := wpAny_Name (wpAny_loadName_cell hk hl hc hv h) hd
theorem fresh_size (h : Heap) : h.get? h.objs.size = none := by
  cases q : h.get? h.objs.size with
  | none => rfl
  | some o => exact absurd (Heap.lt_size q) (Nat.lt_irrefl _)
/-- a def of the top, called -/
theorem callFn {f : Addr} {o : Obj} {fd : FuncData} {body : List Stmt} {pos : List Value} {kw : List (Str × Value)} {binds : List (Str × Value)} {Q : Value → Shared → Prop}
    (hroom : A.depth < recursionLimit) (ho : s.heap.get? f = some o) (hd : o.data = .func fd) (hbody : fd.body = .stmts body) (hcd : s.heap.CodeRec fd.code fd.qualname) (NL : s.heap.NoLimit)
    (hbind : BindsTo s fd ⟨pos, kw⟩ binds) (hcell : ∀ x ∈ fd.scope.names, x.2 ≠ .cell) (hloc : ∀ x ∈ binds, fd.scope.names.lookup x.1 = some .local)
    (h : ∀ L s₁, s.heap.get? L = none → Nx s s₁ → Kp s s₁ → s₁.heap.Ns L (fun x => binds.reverse.lookup x) →
      wpAny (model prog w) (A.deeper (callEnv fd L f)) (execs body (callEnv fd L f)) (fun fl s' => Q (match fl with | .ret v => v | _ => .none) s') (fun _ _ => False) s₁)
    (hco : fd.scope.isCoroutine = false) (hgen : fd.scope.isGenerator = false) (hk : fd.scope.kind = .function) :
    wpAny (model prog w) A (call (.ref f) pos kw) Q E s := by
  refine wpAny_call (codeAny_call_function hroom ho hd hco hgen hbody hcd ?_)
  refine hbind _ _ _ _ (wpAny_newFunctionEnv hcell hloc (fun h₁ hns hsb => ⟨NL.fresh _ hsb, ?_⟩) hk)
  refine codeAny_func (wpAny_mono (h s.heap.objs.size _ (fresh_size _) ⟨rfl, rfl⟩ (fun b o e => hsb.extBut b o (Nat.ne_of_lt (Heap.lt_size e)) (Heap.get?_push_of_some _ e)) hns) (fun fl s' q => ?_) fun _ _ q => q.elim)
  cases fl <;> exact q

theorem getOwn {K : Frag} {x C : Addr} {ox : Obj} {es : List DictEntry} {n : Nat} {name : Str} {v : Value} {expr : Bool} {Q : Value → Shared → Prop} {attr : Option Value} (X : K.In s.heap) (I : W.InstAt s.heap x ox C (some (dictOf es n)))
    (hg : plainGet K C name = true) (hh : hasDictIn K C = true) (ha : findIn K (.ref C) name = some attr) (hn : noGet K attr = true) (hl : getL name es = some (some v)) (hv : handedIn v = true)
    (h : Q v { s with toks := s.toks + 1 }) : wpAny (model prog w) A (getAttr (.ref x) name expr) Q E s :=
  get_value X I (plainGet_of hg).1 (findObj_own hh ha hn hl) hv h
theorem methodInst {K : Frag} {x C f : Addr} {ox : Obj} {es : List DictEntry} {n : Nat} {name : Str} {pl : Sem Bool} {Q : Value × List Value → Shared → Prop} (X : K.In s.heap) (I : W.InstAt s.heap x ox C (some (dictOf es n)))
    (hg : plainGet K C name = true) (hf : findIn K (.ref C) name = some (some (.ref f))) (ht : isFn K (.ref f) = true) (hl : getL name es = some none) (h : Q (.ref f, [.ref x]) s) : wpAny (model prog w) A (getMethod (.ref x) name pl) Q E s :=
  method_fn X I (plainGet_of hg).1 (plainGet_of hg).2 hf (beq_iff_eq.mp ht) (by show (lookIn name (dictOf es n)).map _ = _; rw [lookIn_dict, hl]; rfl) h

/-- a tuple of two unpacked into two names -/
theorem unpack2 {t : Addr} {x y : Str} {px py p : Pos} {k : Nat} {u v : Value} {m : Str → Option Value} {L : Addr} {Q : Unit → Shared → Prop} (hh : A.handled = none) (ht : IsTup s.heap t #[u, v]) (ns : s.heap.Ns L m)
    (h : ∀ s', Nx s s' → s'.heap.Ns L (upd (upd m x u) y v) → KpB L s s' → Q () s')
    (hL : env.locals = L := by rfl) (hk : env.scope.kind = .function := by rfl) (hx : env.kindOf x = some .local := by rfl) (hy : env.kindOf y = some .local := by rfl) :
    wpAny (model prog w) A (assign (.Tuple [.Name x px, .Name y py] k p) env (.ref t)) Q E s := by
  refine wpAny_assign_Tuple hh ht rfl rfl fun h' ext => ?_
  have kk : ∀ b o, s.heap.get? b = some o → h'.get? b = some o := fun b o e => ext b o (Nat.ne_of_lt (Heap.lt_size e)) e
  refine wpAny_assignInOrder_more (assign_Name (stL (ns.keeps kk) (fun s1 x1 n1 b1 => ?_) hL hk hx))
  refine wpAny_assignInOrder_more (assign_Name (stL n1 (fun s2 x2 n2 b2 => ?_) hL hk hy))
  exact wpAny_assignInOrder_none (h s2 ⟨x2.gens.trans x1.gens, x2.os.trans x1.os⟩ n2 fun b o hb e => b2 b o hb (b1 b o hb (kk b o e)))
end
end Mine
end

section
/-! B4 -/
open PySem PySem.W PySem.Calls PyProof.Rows
set_option maxRecDepth 100000
namespace Mine
theorem n_push (w : World) : nsIn (KK w) mainGlobals "heappush" = some (some (.builtin "_heapq.heappush")) := by kernel_rfl
theorem n_pop (w : World) : nsIn (KK w) mainGlobals "heappop" = some (some (.builtin "_heapq.heappop")) := by kernel_rfl
theorem pg80 (w : World) : plainGet (KK w) 80 "pq" = true := by kernel_rfl
theorem hd80 (w : World) : hasDictIn (KK w) 80 = true := by kernel_rfl
theorem f80pq (w : World) : findIn (KK w) (.ref 80) "pq" = some none := by kernel_rfl
theorem two_fits (a b : Value) : [a, b].length ≤ sizeLine := by rw [sizeLine_eq]; show 2 ≤ 16777216; decide
section
variable {w : World} {A : Around} {E : Value → Shared → Prop} {s : Shared} {mg mb : Str → Option Value}

theorem add_wp {W DW P it : Addr} {items : Array Value} {q : Qu} {e : PI} {t u tk : Tok} {hsh : Int} {Q : Value → Shared → Prop} (gd : Gd w mg mb s.heap)
    (hd : A.depth + 3 < recursionLimit) (hu : A.units + 20 < cLine) (hh0 : A.handled = none)
    (hW : s.heap.get? W = some (instObj 80 DW)) (hDW : s.heap.get? DW = some (dictOf [⟨hsh, .str "pq" tk, .ref P⟩] 1))
    (hP : s.heap.IsList P items) (hq : QuAt s.heap items q) (hh : Heaped q.f q.n) (hz : q.n < sizeLine)
    (hi : IsTup s.heap it #[.int e.1 t, .int e.2 u])
    (h : ∀ s' items' q', Ext [P] s s' → s'.heap.IsList P items' → QuAt s'.heap items' q' → Heaped q'.f q'.n → Pushed q q' (- e.1, e.2) → Q .none s') :
    wpAny (model prg w) A (call (.ref 63) [.ref W, .ref it]) Q E s := by
  refine callFn (f := 63) (fd := fdAdd) (body := bodyM (clsSt 1)) (binds := [("self", .ref W), ("item", .ref it)]) (by omega) (gd.X 63 _ (k63 w)) rfl rfl (codeRec_of gd.X (c62 w)) gd.NL (BindsTo.of_eq rfl) (by decide) (locs rfl) (fun L s₁ hL x₁ k₁ ns₁ => ?_) rfl rfl rfl
  refine wpAny_execs_cons (Assign_Tuple (nmL ns₁ rfl ?_))
  refine unpack2 (t := it) hh0 (hi.keeps k₁) ns₁ fun s₂ x₂ ns₂ k₂ => ?_
  have kk : Kp s s₂ := fun b o e => k₂ b o (fun z => by rw [z, hL] at e; cases e) (k₁ b o e)
  refine wpAny_execs_cons (wpAny_Expr_any ?_)
  refine wpAny_Call_NameR (nmG (gd.keeps kk) (n_push w) ?_)
  have I : PySem.W.InstAt s₂.heap W (instObj 80 DW) 80 (some (dictOf [⟨hsh, .str "pq" tk, .ref P⟩] 1)) := ⟨kk _ _ hW, rfl, rfl, kk _ _ hDW⟩
  refine PyProof.Rows.callWith_builtin1 (wpAny_items_cons (Attribute_Name_ (nmL ns₂ rfl (getOwn (gd.keeps kk).X I (pg80 w) (hd80 w) (f80pq w) rfl rfl rfl ?_))))
  refine wpAny_items_cons (wpAny_Tuple (wpAny_items_cons (wpAny_UnaryOp (nmL ns₂ rfl (PyProof.Rows.neg_int (wpAny_items_cons (nmL ns₂ rfl (wpAny_items_nil ⟨two_fits _ _, ?_⟩))))))))
  refine wpAny_items_nil ?_
  have hP2 : s₂.heap.IsList P items := stays_list kk hP
  refine heappush_wp (e := (- e.1, e.2)) (by show A.units + 3 + 3 < cLine; omega) (hP2.push _) ((hq.keeps kk).keeps fun b o e => Heap.get?_push_of_some _ e) hh hz ⟨_, Heap.get?_push_size _ rfl, rfl, _, rfl⟩ fun h3 items' q' hP3 hq3 hh3 pu hs3 => ?_
  refine wpAny_execs_nil ?_
  refine h _ items' q' ⟨(x₁.trans x₂).os, fun b => by rw [(x₁.trans x₂).gens]; exact b, fun a o ha e => ?_⟩ hP3 hq3 hh3 pu
  exact (hs3.2 a (fun e2 => ha (by rw [e2]; exact List.mem_cons_self))).trans (Heap.get?_push_of_some _ (kk a o e))

theorem get_wp {W DW P : Addr} {items : Array Value} {q : Qu} {tk : Tok} {hsh : Int} {Q : Value → Shared → Prop} (gd : Gd w mg mb s.heap)
    (hd : A.depth + 3 < recursionLimit) (hu : A.units + 20 < cLine) (hh0 : A.handled = none)
    (hW : s.heap.get? W = some (instObj 80 DW)) (hDW : s.heap.get? DW = some (dictOf [⟨hsh, .str "pq" tk, .ref P⟩] 1))
    (hP : s.heap.IsList P items) (hq : QuAt s.heap items q) (hh : Heaped q.f q.n) (hz : q.n ≤ sizeLine) (h0 : 0 < q.n)
    (h : ∀ s' items' q' it t u, Ext [P] s s' → s'.heap.IsList P items' → QuAt s'.heap items' q' → Heaped q'.f q'.n → Popped q q' (q.f 0) →
      IsTup s'.heap it #[.int (- (q.f 0).1) t, .int (q.f 0).2 u] → Q (.ref it) s') :
    wpAny (model prg w) A (call (.ref 70) [.ref W]) Q E s := by
  refine callFn (f := 70) (fd := fdGet) (body := bodyM (clsSt 2)) (binds := [("self", .ref W)]) (by omega) (gd.X 70 _ (k70 w)) rfl rfl (codeRec_of gd.X (c69 w)) gd.NL (BindsTo.of_eq rfl) (by decide) (locs rfl) (fun L s₁ hL x₁ k₁ ns₁ => ?_) rfl rfl rfl
  have I : PySem.W.InstAt s₁.heap W (instObj 80 DW) 80 (some (dictOf [⟨hsh, .str "pq" tk, .ref P⟩] 1)) := ⟨k₁ _ _ hW, rfl, rfl, k₁ _ _ hDW⟩
  have nP : ∀ b o, s.heap.get? b = some o → b ≠ L := fun b o e z => by rw [z, hL] at e; cases e
  refine wpAny_execs_cons (wpAny_Assign_Name ?_)
  refine wpAny_Call_NameR (nmG (gd.keeps k₁) (n_pop w) ?_)
  refine PyProof.Rows.callWith_builtin1 (wpAny_items_cons (Attribute_Name_ (nmL ns₁ rfl (getOwn (gd.keeps k₁).X I (pg80 w) (hd80 w) (f80pq w) rfl rfl rfl ?_))))
  refine wpAny_items_nil ?_
  have hP1 : s₁.heap.IsList P items := stays_list k₁ hP
  have LP : L ≠ P := by
    obtain ⟨o, ho, _⟩ := hP
    exact fun z => nP P o ho z.symm
  refine heappop_wp (by show A.units + 3 + 3 < cLine; omega) hP1 (hq.keeps k₁) hh hz h0 fun h' items' q' it t u hP' hq' hh' po hs ht => ?_
  have ns₂ : h'.Ns L _ := ns₁.sameBut hs LP
  have ht' : IsTup h' it #[.int (q.f 0).1 t, .int (q.f 0).2 u] := tup_but hP1 (fun b o hb e => (hs.2 b hb).trans e) ht
  refine stL ns₂ fun s₃ x₃ ns₃ k₃ => ?_
  have keepL : ∀ b o, s₁.heap.get? b = some o → b ≠ P → b ≠ L → s₃.heap.get? b = some o := fun b o e hb hl => k₃ b o hl ((hs.2 b hb).trans e)
  have tupL : ∀ {h1 h2 : Heap} {a : Addr} {xs : Array Value} {m : Str → Option Value}, h1.Ns L m → (∀ b o, b ≠ L → h1.get? b = some o → h2.get? b = some o) → IsTup h1 a xs → IsTup h2 a xs := by
    intro h1 h2 a xs m n k x
    obtain ⟨o, ho, hc, n', hd'⟩ := x
    refine ⟨o, k a o (fun e => ?_) ho, hc, n', hd'⟩
    subst e
    obtain ⟨o', es, ep, e1, e2, _⟩ := n
    rw [ho] at e1; cases e1
    rw [hd'] at e2; cases e2
  have ht3 := tupL ns₂ k₃ ht'
  refine wpAny_execs_cons (wpAny_If (wpAny_isTrue_value (nmL ns₃ rfl (truthy_tuple ht3 (by show (2 : Int) < 2 ^ 63; decide) ?_))))
  refine itT rfl ?_
  refine wpAny_execs_cons (Assign_Tuple (nmL (s := ⟨s₃.heap, _, _, _, _⟩) ns₃ rfl ?_))
  refine unpack2 (t := it) hh0 ht3 ns₃ fun s₄ x₄ ns₄ k₄ => ?_
  refine wpAny_execs_cons (wpAny_Return_some ?_)
  refine wpAny_Tuple (wpAny_items_cons (wpAny_UnaryOp (nmL ns₄ rfl (PyProof.Rows.neg_int (wpAny_items_cons (nmL ns₄ rfl (wpAny_items_nil ⟨two_fits _ _, ?_⟩)))))))
  have xx : Nx s s₄ := ⟨x₄.gens.trans (x₃.gens.trans x₁.gens), x₄.os.trans (x₃.os.trans x₁.os)⟩
  have all : ∀ b o, b ≠ P → s.heap.get? b = some o → (s₄.heap.push { cls := .type "tuple", data := .seq [Value.int (- (q.f 0).1) s₄.toks, Value.int (q.f 0).2 u].toArray }).get? b = some o := fun b o hb e =>
    Heap.get?_push_of_some _ (k₄ b o (nP b o e) (keepL b o (k₁ b o e) hb (nP b o e)))
  refine h _ items' q' _ _ _ ⟨xx.os, fun b => ?_, fun a o ha e => all a o (fun z => ha (by rw [z]; exact List.mem_cons_self)) e⟩ ?_ ?_ hh' po ⟨_, Heap.get?_push_size _ rfl, rfl, _, rfl⟩
  · show AllBare s₄.gens
    rw [xx.gens]; exact b
  · obtain ⟨o, ho, r⟩ := hP'
    exact ⟨o, Heap.get?_push_of_some _ (k₄ P o LP.symm (k₃ P o LP.symm ho)), r⟩
  · refine (QuAt.keeps ?_ fun b o e => Heap.get?_push_of_some _ e)
    exact ⟨hq'.1, fun i hi => let ⟨a, t', u', e1, e2⟩ := hq'.2 i hi; ⟨a, t', u', e1, tupL ns₃ k₄ (tupL ns₂ k₃ e2)⟩⟩
end
end Mine
end

section
/-! G1 -/
open PySem PySem.W PySem.Calls PyProof.Rows
set_option maxRecDepth 100000
namespace Mine
section
variable {prog : Program} {w : World} {A : Around} {R : GenEnd} {Y : Protocol} {n : Nat} {s₀ : Shared} {c : Code} {fs : List Frame} {s : Shared} {env : Env}
  {K : Flow → Sem Fin} {H : Value → Sem Fin} {gd : Bool → Bool} {lv : List Value → List Value}

def forKont (target : Expr) (it : Value) (body orelse : List Stmt) (env : Env) : Flow → Sem Fin
  | .next | .cont => .pure (.again (.forLoop target it body orelse env))
  | .brk => .pure (.done .next)
  | .ret v => .pure (.done (.ret v))

theorem seg_forLoop {target : Expr} {it : Value} {body orelse : List Stmt}
    (h : wpAny (model prog w) (A.over (.forLoop target it body orelse env) fs) (pyNext it) (fun r s₁ => match r with
      | none => Seg (model prog w) A R Y n s₀ (.block orelse env) ((model prog w).den (.block orelse env)) fs s₁
      | some v => wpAny (model prog w) (A.over (.forLoop target it body orelse env) fs) (letOwnedTupleGo target it v) (fun _ s₂ =>
          wpAny (model prog w) (A.over (.forLoop target it body orelse env) fs) (assign target env v) (fun _ s₃ =>
            ∀ H', Seg (model prog w) A R Y n s₀ (.forLoop target it body orelse env) ((execs body env).wrap (forKont target it body orelse env) H' id id) fs s₃)
            (fun _ _ => False) s₂) (fun _ _ => False) s₁) (fun _ _ => False) s) :
    Seg (model prog w) A R Y n s₀ (.forLoop target it body orelse env) ((model prog w).den (.forLoop target it body orelse env)) fs s := by
  show Seg _ A R Y n s₀ _ ((forTurn target it body orelse env).onRaise (fun x => do noteFrame x env; theTreesLotGoes x)) fs s
  unfold forTurn
  rw [Sem.onRaise_eq_wrap, Sem.bind_eq_wrap', Sem.wrap_wrap]
  refine seg_wrap (wpAny_standAt ?_)
  rw [Sem.bind_eq_wrap', Sem.wrap_wrap]
  refine seg_wrap (wpAny_onRaise (wpAny_mono h (fun r s₁ h₁ => ?_) fun _ _ h' => h'.elim))
  cases r with
  | none => exact seg_again rfl h₁
  | some v =>
    dsimp only
    rw [Sem.bind_eq_wrap', Sem.wrap_wrap]
    refine seg_wrap (wpAny_mono h₁ (fun _ s₂ h₂ => ?_) fun _ _ h' => h'.elim)
    rw [Sem.bind_eq_wrap', Sem.wrap_wrap]
    refine seg_wrap (wpAny_mono h₂ (fun _ s₃ h₃ => ?_) fun _ _ h' => h'.elim)
    rw [Sem.bind_eq_wrap', Sem.wrap_wrap]
    have e : ∀ (G : Flow → Sem Fin) (H' : Value → Sem Fin) (g : Bool → Bool) (l : List Value → List Value), (∀ f, G f = forKont target it body orelse env f) → g = id → l = id →
        Seg (model prog w) A R Y n s₀ (.forLoop target it body orelse env) ((execs body env).wrap G H' g l) fs s₃ := by
      intro G H' g l hG hg hl
      subst hg hl
      rw [Sem.wrap_congr (execs body env) (K' := forKont target it body orelse env) (H' := H') id id hG (fun _ => rfl)]
      exact h₃ H'
    exact e _ _ _ _ (fun f => by cases f <;> rfl) rfl rfl

theorem seg_For {target iter : Expr} {body orelse : List Stmt} {pos : Pos}
    (h : wpAny (model prog w) (A.over c fs) (eval iter env) (fun x s₁ => wpAny (model prog w) (A.over c fs) (pyIter x) (fun it s₂ =>
      ∀ k p, (∀ f, k (.ok f) = K f) → Seg (model prog w) A R Y n s₀ (.forLoop target it body orelse env) ((model prog w).den (.forLoop target it body orelse env)) (.ret k none (gd false) (lv []) c p [] :: fs) s₂)
      (fun _ _ => False) s₁) (fun _ _ => False) s)
    (hs : ∀ x, foldedSetIterable iter env x = pure x) :
    Seg (model prog w) A R Y n s₀ c ((exec (.For target iter body orelse pos) env).wrap K H gd lv) fs s := by
  rw [exec_For, Sem.bind_eq_wrap', Sem.wrap_wrap]
  refine seg_wrap (wpAny_standAt ?_)
  rw [Sem.bind_eq_wrap', Sem.wrap_wrap]
  refine seg_wrap (wpAny_mono h (fun x s₁ h₁ => ?_) fun _ _ h' => h'.elim)
  rw [hs, Sem.bind_eq_wrap', Sem.wrap_wrap]
  refine seg_wrap (wpAny_pure ?_)
  rw [Sem.bind_eq_wrap', Sem.wrap_wrap]
  refine seg_wrap (wpAny_standAt ?_)
  rw [Sem.bind_eq_wrap', Sem.wrap_wrap]
  refine seg_wrap (wpAny_holding (wpAny_mono h₁ (fun it s₂ h₂ => ?_) fun _ _ h' => h'.elim))
  exact seg_call fun p => h₂ _ p fun f => rfl
end
end Mine
end

section
/-! G2 -/
open PySem PySem.W PySem.Calls PyProof.Rows
set_option maxRecDepth 100000
namespace Mine

abbrev Keep0 (h₀ h : Heap) : Prop := ∀ b o, h₀.get? b = some o → h.get? b = some o
def notIter (o : Obj) : Prop := ¬ (o.cls = .type "list_iterator" ∧ ∃ vs, o.data = .fields vs)
/-- a step of the generator: its frame and its iterator alone have changed -/
structure GStep (h₀ : Heap) (Lg : Addr) (s s' : Shared) : Prop where
  gens : s'.gens = s.gens
  os : s'.os = s.os
  keep : ∀ b o, b ≠ Lg → notIter o → s.heap.get? b = some o → s'.heap.get? b = some o
  old : Keep0 h₀ s.heap → Keep0 h₀ s'.heap
theorem GStep.trans {h₀ : Heap} {Lg : Addr} {s s' s'' : Shared} (x : GStep h₀ Lg s s') (y : GStep h₀ Lg s' s'') : GStep h₀ Lg s s'' :=
  ⟨y.gens.trans x.gens, y.os.trans x.os, fun b o h1 h2 e => y.keep b o h1 h2 (x.keep b o h1 h2 e), fun k => y.old (x.old k)⟩
theorem GStep.refl (h₀ : Heap) (Lg : Addr) (s : Shared) : GStep h₀ Lg s s := ⟨rfl, rfl, fun _ _ _ _ e => e, id⟩

def GY (h₀ : Heap) (Lg : Addr) (q : Qu) : Protocol := fun m s₀ v s' kont =>
  m < q.n ∧ (∃ t tt tu, v = .ref t ∧ IsTup s'.heap t #[.int (- (q.f (q.n - 1 - m)).1) tt, .int (q.f (q.n - 1 - m)).2 tu]) ∧ GStep h₀ Lg s₀ s' ∧
  ∃ Ai oL oA, s'.heap.get? Lg = some oL ∧ s'.heap.get? Ai = some oA ∧ oA.cls = .type "list_iterator" ∧ (∃ vs, oA.data = .fields vs) ∧ (∃ es ep, oL.data = .dict es ep) ∧
    ∀ s'', s''.heap.get? Lg = some oL → s''.heap.get? Ai = some oA → Keep0 h₀ s''.heap → kont (.send .none) s''
def GR (h₀ : Heap) (Lg : Addr) : GenEnd := fun n s₀ r s₁ => n = 0 ∧ r = .ok (.ret .none) ∧ GStep h₀ Lg s₀ s₁


section
variable {w : World} {A : Around} {h₀ : Heap} {Lg : Addr} {q : Qu} {P : Addr} {items : Array Value} {mg mb : Str → Option Value}

theorem over_handled {A : Around} {c : Code} {k g l c₁ p₁ kp} (hh : A.handled = none) : (A.over c [.ret k none g l c₁ p₁ kp]).handled = none := by
  show (markOver none A.handled A.handled) = none
  exact hh

theorem gstep_iter {s : Shared} {h' : Heap} {Ai P : Addr} {i : Nat} (hit : s.heap.IsListIter Ai P i) (hA : h₀.get? Ai = none) (ext : Heap.ExtBut Ai s.heap h') : GStep h₀ Lg s { s with heap := h' } := by
  refine ⟨rfl, rfl, fun b o _ hc e => ext b o (fun z => ?_) e, fun k b o e => ext b o (fun z => ?_) (k b o e)⟩
  · obtain ⟨oA, eA, cA, dA⟩ := hit
    rw [z, eA] at e; cases e; exact hc ⟨cA, _, dA⟩
  · rw [z, hA] at e; cases e
theorem ns_ne_iter {h : Heap} {L Ai P : Addr} {i : Nat} {m : Str → Option Value} (ns : h.Ns L m) (hit : h.IsListIter Ai P i) : L ≠ Ai := by
  intro z
  subst z
  obtain ⟨o, es, ep, e, d, _⟩ := ns
  obtain ⟨o', e', _, d'⟩ := hit
  rw [e] at e'; cases e'
  rw [d] at d'; cases d'
theorem iter_loop {target : Expr} {body : List Stmt} {kk : Result → Sem Fin} {c : Code} {p : Pos} {px py tp yp sp tp2 p3 p4 up : Pos} {k2 : Nat}
    (ht : target = .Tuple [.Name "pr" px, .Name "cmt" py] 0 tp) (hb : body = [.Expr (.Yield (some (.Tuple [.UnaryOp .USub (.Name "pr" p3) up, .Name "cmt" p4] k2 tp2)) yp) sp])
    (hh : A.handled = none) (hP : h₀.IsList P items) (hq : QuAt h₀ items q)
    (hkk : kk (.ok .next) = .pure (.done (.ret .none))) : ∀ (n i : Nat) (s₀ s : Shared) (m : Str → Option Value) (Ai : Addr), n + i = q.n → s.heap.Ns Lg m → s.heap.IsListIter Ai P i → h₀.get? Lg = none → h₀.get? Ai = none → Keep0 h₀ s.heap → GStep h₀ Lg s₀ s →
      Seg (model prg w) A (GR h₀ Lg) (GY h₀ Lg q) n s₀ (.forLoop target (.ref Ai) body [] (callEnv fdIter Lg 77)) ((model prg w).den (.forLoop target (.ref Ai) body [] (callEnv fdIter Lg 77))) [.ret kk none false [] c p []] s := by
  intro n
  induction n with
  | zero =>
    intro i s₀ s m Ai hi ns hit hL hA k0 st
    refine seg_forLoop (wpAny_pyNext_list_end (over_handled hh) hit (stays_list k0 hP) ?_ fun h' ext => ?_)
    · rw [Array.getElem?_eq_none]; rw [hq.1]; omega
    · show Seg _ _ _ _ _ _ _ (leafOf (.ok .next)) _ _
      refine seg_leaf _ ?_
      rw [hkk]
      exact seg_end (.ok (.ret .none)) ⟨rfl, rfl, st.trans (gstep_iter hit hA ext)⟩
  | succ n ih =>
    intro i s₀ s m Ai hi ns hit hL hA k0 st
    have hin : i < q.n := by omega
    obtain ⟨t, t1, t2, e1, x1⟩ := hq.2 i hin
    refine seg_forLoop (wpAny_pyNext_list_item hit (stays_list k0 hP) e1 fun h' hit' hs => ?_)
    subst ht
    refine wpAny_letOwnedTupleGo_listiter hit' ?_
    have g1 := gstep_iter (Lg := Lg) (s := s) hit hA hs.extBut
    have LA : Lg ≠ Ai := ns_ne_iter ns hit
    have ns1 : h'.Ns Lg m := ns.sameBut hs LA
    have k1 := g1.old k0
    refine unpack2 (t := t) (over_handled hh) (x1.keeps k1) ns1 fun s2 x2 ns2 k2' => ?_
    have g2 : GStep h₀ Lg ⟨h', s.gens, s.drawn, s.toks, s.os⟩ s2 := ⟨x2.gens, x2.os, fun b o hb _ e => k2' b o hb e, fun k b o e => k2' b o (fun z => by rw [z, hL] at e; cases e) (k b o e)⟩
    have k2 := g2.old k1
    intro H'
    subst hb
    refine seg_execs_cons (seg_Expr_Yield rfl rfl rfl ?_)
    refine wpAny_Tuple (wpAny_items_cons (wpAny_UnaryOp (nmL ns2 rfl (PyProof.Rows.neg_int (wpAny_items_cons (nmL ns2 rfl (wpAny_items_nil ⟨two_fits _ _, ?_⟩)))))))
    intro kap hkap
    have idx : q.n - 1 - n = i := by omega
    have g3 : GStep h₀ Lg s2 { s2 with heap := s2.heap.push { cls := .type "tuple", data := .seq [Value.int (- (q.f i).1) s2.toks, Value.int (q.f i).2 t2].toArray }, toks := s2.toks + 1 } :=
      ⟨rfl, rfl, fun b o _ _ e => Heap.get?_push_of_some _ e, fun k b o e => Heap.get?_push_of_some _ (k b o e)⟩
    have gall := st.trans (g1.trans (g2.trans g3))
    obtain ⟨oL, es, ep, eL, dL, _⟩ := id ns2
    obtain ⟨oA, eA, cA, dA⟩ := id hit'
    have eA2 : s2.heap.get? Ai = some oA := k2' Ai oA LA.symm eA
    refine ⟨by omega, ⟨_, _, _, rfl, by rw [idx]; exact ⟨_, Heap.get?_push_size _ rfl, rfl, _, rfl⟩⟩, gall, Ai, oL, oA, Heap.get?_push_of_some _ eL, Heap.get?_push_of_some _ eA2, cA, ⟨_, dA⟩, ⟨es, ep, dL⟩, fun s'' e1 e2 k'' => ?_⟩
    refine hkap .none s'' ?_
    show Seg _ _ _ _ _ _ _ (.pure (.again _)) _ _
    refine seg_again rfl ?_
    refine ih (i + 1) s'' s'' (upd (upd m "pr" (.int (q.f i).1 t1)) "cmt" (.int (q.f i).2 t2)) Ai (by omega) ?_ ⟨oA, e2, cA, dA⟩ hL hA k'' (GStep.refl ..)
    · obtain ⟨oL', es', ep', eL', dL', r⟩ := ns2
      rw [eL] at eL'; cases eL'
      exact ⟨oL, es', ep', e1, dL', r⟩

theorem iter_start {W DW : Addr} {hsh : Int} {tk : Tok} (hh : A.handled = none) (gd : Gd w mg mb h₀) (hW : h₀.get? W = some (instObj 80 DW)) (hDW : h₀.get? DW = some (dictOf [⟨hsh, .str "pq" tk, .ref P⟩] 1))
    (hP : h₀.IsList P items) (hq : QuAt h₀ items q) {s : Shared} (ns : s.heap.Ns Lg (fun x => [(Str.ofString "self", Value.ref W)].reverse.lookup x)) (hL : h₀.get? Lg = none) (k0 : Keep0 h₀ s.heap) :
    Seg (model prg w) A (GR h₀ Lg) (GY h₀ Lg q) q.n s (.func (bodyM (clsSt 3)) (callEnv fdIter Lg 77)) ((model prg w).den (.func (bodyM (clsSt 3)) (callEnv fdIter Lg 77))) [] s := by
  refine seg_func (seg_execs_cons (seg_For (Attribute_Name_ (nmL ns rfl (getOwn (gd.keeps k0).X (I := ⟨k0 _ _ hW, rfl, rfl, k0 _ _ hDW⟩) (pg80 w) (hd80 w) (f80pq w) rfl rfl rfl ?_))) fun x => rfl))
  refine wpAny_pyIter_list (stays_list k0 hP) ?_
  intro k p hk
  have hA : h₀.get? s.heap.objs.size = none := by
    cases q' : h₀.get? s.heap.objs.size with
    | none => rfl
    | some o => exact absurd (Heap.lt_size (k0 _ _ q')) (Nat.lt_irrefl _)
  refine iter_loop rfl rfl hh hP hq (by rw [hk]; rfl) q.n 0 s _ _ _ rfl (ns.push _) ⟨_, Heap.get?_push_size _ rfl, rfl, rfl⟩ hL hA (fun b o e => Heap.get?_push_of_some _ (k0 b o e)) ?_
  exact ⟨rfl, rfl, fun b o _ _ e => Heap.get?_push_of_some _ e, fun k' b o e => Heap.get?_push_of_some _ (k' b o e)⟩
end

section
variable {prog : Program} {w : World} {A : Around} {E : Value → Shared → Prop} {s : Shared}
/-- the next item of a generator made by a def -/
theorem next_gen {a : Addr} {g n : Nat} {gs : GenState} {R : GenEnd} {Y : Protocol} {Q : Option Value → Shared → Prop} (hh : A.handled = none)
    (hl : s.heap.NoLimit) (hroom : A.depth < recursionLimit) (hg : s.heap.IsGen a g) (hgs : s.gens[g]? = some gs)
    (hgo : gs.Goes (model prog w) A.in1 R Y n (.send .none) (s.setGen g .running)) (hRr : ∀ n s₀ r s₁, R n s₀ r s₁ → r = .ok (.ret .none))
    (hY : ∀ v s₁ gs', gs'.bare = true → Y (n - 1) (s.setGen g .running) v s₁ (fun r' s'' => match n with
        | 0 => False
        | m + 1 => gs'.Goes (model prog w) A.in1 R Y m r' s'') → Q (some v) (s₁.setGen g gs'))
    (hP : ∀ s₁, R n (s.setGen g .running) (.ok (.ret .none)) s₁ → ∀ h', (∀ b o, s₁.heap.get? b = some o → h'.get? b = some o) → Q none { s₁.setGen g .finished with heap := h' }) :
    wpAny (model prog w) A (pyNext (.ref a)) Q E s := by
  have stop : ∀ s₁, R n (s.setGen g .running) (.ok (.ret .none)) s₁ → ∀ (k : Unit → Sem PySem.Fin), wpAny (model prog w) A.in1 (newExc (.type "StopIteration") [] >>= fun e => (raiseNew e : Sem Unit) >>= k) (fun _ _ => False)
      (fun e s' => wpAny (model prog w) A (isInstance e (.type "StopIteration") >>= fun b => if b = true then pure none else throw e) Q E s') (s₁.setGen g .finished) := by
    intro s₁ hp k
    simp only [newExc, newTuple]
    refine wpAny_bind (wpAny_bind (wpAny_newObj_type ?_ (by size_fits)))
    refine wpAny_bind (m := firstArgMember _ _) (wpAny_of_eq (a := Value.none) (by simp only [firstArgMember]; rfl) ?_)
    refine wpAny_newObj_type ?_ (by size_fits)
    simp only [raiseNew]
    refine wpAny_bind (wpAny_bind (wpAny_handled ?_))
    rw [show A.in1.handled = none from hh]
    refine wpAny_bind (wpAny_pure (wpAny_throw ?_))
    refine wpAny_bind (wpAny_isInstance (T := "StopIteration") (b := true) ⟨_, Heap.get?_push_size _ rfl, rfl⟩ isSubtype_stop ?_)
    exact wpAny_pure (hP s₁ hp _ fun b o hb => Heap.get?_push_of_some _ (Heap.get?_push_of_some _ hb))
  have wake : wpAny (model prog w) A.in1 (Builtin.Generator.genWake (.ref a) (.send .none)) (fun fin s' => ∃ v, fin = .done (.ret v) ∧ Q (some v) s')
      (fun e s' => wpAny (model prog w) A (isInstance e (.type "StopIteration") >>= fun b => if b = true then pure none else throw e) Q E s') s := by
    unfold Builtin.Generator.genWake
    have res : wpAny (model prog w) A.in1 (resume g (.send .none)) (fun r s' => (∃ v, r = .yielded v ∧ Q (some v) s') ∨ (∃ s₁, r = .returned .none ∧ R n (s.setGen g .running) (.ok (.ret .none)) s₁ ∧ s' = s₁.setGen g .finished)) (fun _ _ => False) s :=
      wpAny_resumeQ hgs hgo (fun x s₁ hx => by
        have := hRr _ _ _ _ hx
        subst this
        exact wpAny_pure (.inr ⟨s₁, rfl, hx, rfl⟩)) fun v s₁ gs' hb hv => wpAny_pure (.inl ⟨v, rfl, hY v s₁ gs' hb hv⟩)
    have hst : gs.status = .fresh ∨ gs.status = .suspended := by
      cases gs with
      | fresh => exact .inl rfl
      | suspended => exact .inr rfl
      | running => exact hgo.elim
      | finished => exact hgo.elim
    refine wpAny_bind (wpAny_holding (wpAny_genNumber hg (wpAny_bind (wpAny_genState hgs ?_))))
    rcases hst with e | e
    · rw [e]
      refine wpAny_bind (wpAny_roomToWake hl hroom (wpAny_bind (wpAny_mono res (fun r s' h => ?_) fun _ _ x => x.elim)))
      rcases h with ⟨v, rfl, hv⟩ | ⟨s₁, rfl, hp, rfl⟩
      · exact wpAny_pure ⟨v, rfl, hv⟩
      · exact wpAny_mono (stop s₁ hp _) (fun _ _ x => x.elim) fun _ _ x => x
    · rw [e]
      refine wpAny_bind (wpAny_roomToWake hl hroom (wpAny_bind (wpAny_mono res (fun r s' h => ?_) fun _ _ x => x.elim)))
      rcases h with ⟨v, rfl, hv⟩ | ⟨s₁, rfl, hp, rfl⟩
      · exact wpAny_pure ⟨v, rfl, hv⟩
      · exact wpAny_mono (stop s₁ hp _) (fun _ _ x => x.elim) fun _ _ x => x
  unfold pyNext
  refine wpAny_bind (wpAny_attempt (wpAny_callSpecial?_slot (name := Str.ofString "__next__") hg.typeIs slot_gen_next (wpAny_call_entry slot_gen_next hg.typeIs entry_gen_next ?_ (args_gen_next _))))
  refine wpAny_mono wake (fun fin s' hf => ?_) fun e s' he => he
  obtain ⟨v, rfl, hv⟩ := hf
  exact ⟨v, rfl, wpAny_pure hv⟩
end
end Mine
end

section
/-! G3 -/
open PySem PySem.W PySem.Calls PyProof.Rows
set_option maxRecDepth 100000
namespace Mine

theorem and4 (f : Fl) : Builtin.bitAnd f.n 4 = if f.d = true then 4 else 0 := by
  rcases f with ⟨a, b, d, l⟩
  cases a <;> cases b <;> cases d <;> cases l <;> decide +kernel
theorem and4_eq (f : Fl) : (Builtin.bitAnd f.n 4 == 4) = f.d := by
  rw [and4]; cases f.d <;> rfl

def StAt (h : Heap) (C : Addr) (st : St) : Prop := ∃ fm, h.IntMap C fm ∧ ∀ k, match st k with
  | none => fm k = none
  | some f => ∃ t, fm k = some (.int f.n t)
theorem StAt.keeps {h h' : Heap} {C : Addr} {st : St} (x : StAt h C st) (k : ∀ b o, h.get? b = some o → h'.get? b = some o) : StAt h' C st := by
  obtain ⟨fm, ⟨o, es, ep, ho, r⟩, z⟩ := x
  exact ⟨fm, ⟨o, es, ep, k _ _ ho, r⟩, z⟩

def argsM : Stmt → Arguments
  | .FunctionDef _ args _ _ _ _ _ _ _ _ => args
  | _ => default
def scopeM : Stmt → Scope
  | .FunctionDef _ _ _ _ _ _ scope _ _ _ => scope
  | _ => default
def nameM : Stmt → Str
  | .FunctionDef name _ _ _ _ _ _ _ _ _ => name
  | _ => default
def hcSt : Stmt := (bodyM (topSt 3)).getD 6 (.Pass ⟨0, 0, 0, 0⟩)
def fdN (qual : Str) (st : Stmt) (cl : List (Str × Addr)) (doc pm : Value) (c' : Addr) (ctv : Value) : FuncData :=
  fnX (nameM st) qual (argsM st) (bodyM st) (scopeM st) cl .none .none doc pm none (.ref c') ctv

theorem pgIter (w : World) : plainGet (KK w) 80 "iter" = true := by kernel_rfl
theorem fIter (w : World) : findIn (KK w) (.ref 80) "iter" = some (some (.ref 77)) := by kernel_rfl
theorem isIter (w : World) : isFn (KK w) (.ref 77) = true := by kernel_rfl
theorem kpIter (w : World) : keepIn (KK w) (.ref 77) = true := by kernel_rfl

def candAt (q : Qu) (st : St) (i : Nat) : Bool := match st (q.f i).2 with
  | some f => !f.d
  | none => false

theorem push_set (G : Array GenState) (x y : GenState) : (G.push x).setIfInBounds G.size y = G.push y := by
  apply Array.ext'
  simp
theorem push_set2 (G : Array GenState) (x y z : GenState) : ((G.push x).setIfInBounds G.size y).setIfInBounds G.size z = G.push z := by
  rw [push_set, push_set]
theorem bare_push {G : Array GenState} {x : GenState} (h : AllBare G) (hx : x.bare = true) : AllBare (G.push x) := fun y hy => by
  rcases Array.mem_push.mp hy with hy | rfl
  · exact h y hy
  · exact hx
section
variable {w : World} {A : Around} {E : Value → Shared → Prop} {s : Shared} {mg mb : Str → Option Value}

theorem callIter {W : Addr} {Q : Value → Shared → Prop} (gd : Gd w mg mb s.heap) (hd : A.depth < recursionLimit)
    (h : ∀ Lg a s', s.heap.get? Lg = none → s.heap.get? a = none → s'.os = s.os → s'.gens = s.gens.push (.fresh (.func (bodyM (clsSt 3)) (callEnv fdIter Lg 77))) → Kp s s' →
      s'.heap.Ns Lg (fun x => [(Str.ofString "self", Value.ref W)].reverse.lookup x) → s'.heap.IsGen a s.gens.size → Q (.ref a) s') :
    wpAny (model prg w) A (call (.ref 77) [.ref W]) Q E s := by
  refine wpAny_call (codeAny_call_generator hd (gd.X 77 _ (k77 w)) rfl rfl rfl (body := bodyM (clsSt 3)) rfl (codeRec_of gd.X (c76 w)) ?_)
  have hb : BindsTo s fdIter ⟨[.ref W], []⟩ [("self", .ref W)] := BindsTo.of_eq rfl
  refine hb _ _ _ _ (wpAny_newFunctionEnv (by decide) (locs rfl) (fun h₁ hns hsb => ⟨gd.NL.fresh _ hsb, ?_⟩) rfl)
  have kk : ∀ b o, s.heap.get? b = some o → h₁.get? b = some o := fun b o e => hsb.extBut b o (Nat.ne_of_lt (Heap.lt_size e)) (Heap.get?_push_of_some _ e)
  refine h s.heap.objs.size h₁.objs.size _ (fresh_size _) ?_ rfl rfl (fun b o e => Heap.get?_push_of_some _ (kk b o e)) (hns.push _) ⟨_, _, _, Heap.get?_push_size _ rfl, rfl, rfl, rfl⟩
  cases q : s.heap.get? h₁.objs.size with
  | none => rfl
  | some o => exact absurd (Heap.lt_size (kk _ _ q)) (Nat.lt_irrefl _)

theorem letGo_gen {elts : List Expr} {x1 : Nat} {pos : Pos} {a T g : Nat} {Q : Unit → Shared → Prop} (hg : s.heap.IsGen a g) (h : Q () s) :
    wpAny (model prg w) A (letOwnedTupleGo (.Tuple elts x1 pos) (.ref a) (.ref T)) Q E s := by
  obtain ⟨o, nm, qn, ho, hc, hd, _⟩ := hg
  unfold letOwnedTupleGo
  refine wpAny_bind (wpAny_load ho ?_)
  rw [hc, hd]
  have e : (["enumerate", "zip", "dict_itemiterator", "dict_reverseitemiterator", "odict_iterator", "itertools.zip_longest", "itertools.pairwise"] : List String).contains "generator" = false := by decide
  show wpAny _ A (if ((["enumerate", "zip", "dict_itemiterator", "dict_reverseitemiterator", "odict_iterator", "itertools.zip_longest", "itertools.pairwise"] : List String).contains "generator" && _) = true then _ else _) Q E s
  rw [e, Bool.false_and, if_neg Bool.false_ne_true]
  exact wpAny_pure h

theorem hc_wp {HF cD C W DW P : Addr} {items : Array Value} {q : Qu} {st : St} {tk t4 : Tok} {hsh : Int} {doc pm ctv : Value} {c' : Addr} {Q : Value → Shared → Prop} (gd : Gd w mg mb s.heap)
    (hd : A.depth + 5 < recursionLimit) (hu : A.units + 30 < cLine) (hh0 : A.handled = none) (hG : AllBare s.gens)
    (hF : s.heap.get? HF = some (fnO (fdN "_find_lcas.<locals>._has_candidates" hcSt [("_DNC", cD)] doc pm c' ctv))) (hcd : s.heap.CodeRec (.ref c') "_find_lcas.<locals>._has_candidates")
    (hcD : s.heap.IsCell cD (some (.int 4 t4)))
    (hW : s.heap.get? W = some (instObj 80 DW)) (hDW : s.heap.get? DW = some (dictOf [⟨hsh, .str "pq" tk, .ref P⟩] 1))
    (hP : s.heap.IsList P items) (hq : QuAt s.heap items q) (hC : StAt s.heap C st)
    (h : ∀ s' b, Ext [] s s' → (b = true → ∃ i, i < q.n ∧ candAt q st i = true) → (b = false → ∀ i, i < q.n → candAt q st i = false) → Q (.bool b) s') :
    wpAny (model prg w) A (call (.ref HF) [.ref W, .ref C]) Q E s := by
  refine callFn (f := HF) (body := bodyM hcSt) (binds := [("wlst", .ref W), ("cstates", .ref C)]) (by omega) hF rfl rfl hcd gd.NL (BindsTo.of_eq rfl) (by show ∀ x ∈ (scopeM hcSt).names, x.2 ≠ .cell; decide) (locs rfl) (fun L s₁ hL x₁ k₁ ns₁ => ?_) rfl rfl rfl
  refine wpAny_execs_cons (wpAny_For ?_)
  have I : PySem.W.InstAt s₁.heap W (instObj 80 DW) 80 (some (dictOf [⟨hsh, .str "pq" tk, .ref P⟩] 1)) := ⟨k₁ _ _ hW, rfl, rfl, k₁ _ _ hDW⟩
  refine MethodCall_ (nmL ns₁ rfl (methodInst (gd.keeps k₁).X I (pgIter w) (fIter w) (isIter w) rfl ?_))
  refine callWith_K0 (gd.keeps k₁).X (kpIter w) ?_
  refine callIter (gd.keeps k₁) (by show A.depth + 1 < recursionLimit; omega) fun Lg a s₂ hLg ha os₂ gens₂ k₂ nsg hgen => ?_
  refine wpAny_pyIter_gen hgen ?_
  have kk : Keep0 s.heap s₂.heap := fun b o e => k₂ b o (k₁ b o e)
  have no : ∀ {b}, s₁.heap.get? b = none → s.heap.get? b = none := fun {b} e => by
    cases z : s.heap.get? b with
    | none => rfl
    | some o => rw [k₁ b o z] at e; cases e
  have gs1 : s₁.gens = s.gens := x₁.gens
  rw [gs1] at gens₂ hgen
  have LLg : L ≠ Lg := fun z => by
    obtain ⟨o, _, _, e, _⟩ := ns₁
    rw [z, hLg] at e; cases e
  have aLg : a ≠ Lg := fun z => by
    obtain ⟨o, _, _, e, d, _⟩ := nsg
    obtain ⟨o', _, _, e', _, d', _⟩ := hgen
    rw [z, e] at e'; cases e'
    rw [d] at d'; cases d'
  have aL : a ≠ L := fun z => by
    obtain ⟨o, _, _, e, _⟩ := ns₁
    rw [z, e] at ha; cases ha
  refine codeAny_forLoop_any (fun n s' => ∃ i m gs, n + i = q.n ∧ (∀ j, j < i → candAt q st j = false) ∧ s'.os = s.os ∧ Keep0 s.heap s'.heap ∧ s'.heap.Ns L m ∧ m "cstates" = some (.ref C) ∧
      s'.heap.IsGen a s.gens.size ∧ s'.gens = s.gens.push gs ∧ gs.bare = true ∧
      gs.Goes (model prg w) (A.deeper (callEnv (fdN "_find_lcas.<locals>._has_candidates" hcSt [("_DNC", cD)] doc pm c' ctv) L HF)).in1 (GR s.heap Lg) (GY s.heap Lg q) n (.send .none) (s'.setGen s.gens.size .running)) ?_ q.n ?_
  · rintro n s' ⟨i, m, gs, hni, hbe, hos, k0, ns, hmC, hg, hgens, hbare, hgo⟩
    refine next_gen hh0 (gd.keeps k0).NL (by show A.depth + 1 < recursionLimit; omega) hg (by rw [hgens]; simp) hgo (fun _ _ _ _ x => x.2.1) (fun v s₃ gs' hb' hy => ?_) fun s₃ hr h' kh => ?_
    · obtain ⟨hlt, ⟨t, tt, tu, rfl, ht⟩, gst, Ai, oL, oA, eL, eA, cA, ⟨va, dA⟩, ⟨es, ep, dL⟩, kont⟩ := hy
      cases n with
      | zero => exact (kont s₃ eL eA (gst.old k0)).elim
      | succ n =>
        have hidx : q.n - 1 - n = i := by omega
        simp only [Nat.add_sub_cancel] at ht
        rw [hidx] at ht
        have k3 : Keep0 s.heap s₃.heap := gst.old k0
        have hg3 : s₃.heap.IsGen a s.gens.size := by
          obtain ⟨o, nm, qn, e, c, d, sl⟩ := hg
          exact ⟨o, nm, qn, gst.keep a o aLg (fun z => by rw [c] at z; exact absurd (Value.type.inj z.1) (by decide)) e, c, d, sl⟩
        have ns3 : s₃.heap.Ns L m := by
          obtain ⟨o, es', ep', e, d, r⟩ := ns
          exact ⟨o, es', ep', gst.keep L o LLg (fun z => by obtain ⟨_, vs, d'⟩ := z; rw [d] at d'; cases d') e, d, r⟩
        have gens3 : (s₃.setGen s.gens.size gs').gens = s.gens.push gs' := by
          show s₃.gens.setIfInBounds _ _ = _
          rw [gst.gens]
          show (s'.gens.setIfInBounds _ _).setIfInBounds _ _ = _
          rw [hgens]
          exact push_set2 _ _ _ _
        refine letGo_gen (s := s₃.setGen s.gens.size gs') hg3 ?_
        refine unpack2 (s := s₃.setGen s.gens.size gs') (t := t) hh0 ht ns3 fun s4 x4 ns4 k4 => ?_
        have k4' : Keep0 s.heap s4.heap := fun b o e => k4 b o (fun z => by rw [z, hL] at e; cases e) (k3 b o e)
        have AiL : Ai ≠ L := fun z => by
          obtain ⟨o, _, _, e, d, _⟩ := ns3
          rw [z, e] at eA
          cases eA
          rw [d] at dA; cases dA
        have inv : ∀ s5 : Shared, s5.heap = s4.heap → s5.gens = s4.gens → s5.os = s4.os → candAt q st i = false →
            ∃ m', m' < n + 1 ∧ ∃ i m gs, m' + i = q.n ∧ (∀ j, j < i → candAt q st j = false) ∧ s5.os = s.os ∧ Keep0 s.heap s5.heap ∧ s5.heap.Ns L m ∧ m "cstates" = some (.ref C) ∧
              s5.heap.IsGen a s.gens.size ∧ s5.gens = s.gens.push gs ∧ gs.bare = true ∧
              gs.Goes (model prg w) (A.deeper (callEnv (fdN "_find_lcas.<locals>._has_candidates" hcSt [("_DNC", cD)] doc pm c' ctv) L HF)).in1 (GR s.heap Lg) (GY s.heap Lg q) m' (.send .none) (s5.setGen s.gens.size .running) := by
          intro s5 h5 g5 o5 hc
          refine ⟨n, Nat.lt_succ_self _, i + 1, _, gs', by omega, fun j hj => ?_, ?_, ?_, by rw [h5]; exact ns4, ?_, ?_, ?_, hb', ?_⟩
          · by_cases e : j = i
            · subst e; exact hc
            · exact hbe j (by omega)
          · rw [o5, x4.os]; exact gst.os.trans hos
          · rw [h5]; exact k4'
          · show upd (upd m _ _) _ _ _ = _
            exact hmC
          · rw [h5]
            obtain ⟨o, nm, qn, e, r⟩ := hg3
            exact ⟨o, nm, qn, k4 a o aL e, r⟩
          · rw [g5, x4.gens]; exact gens3
          · refine kont _ ?_ ?_ ?_
            · show s5.heap.get? Lg = _
              rw [h5]; exact k4 Lg oL LLg.symm eL
            · show s5.heap.get? Ai = _
              rw [h5]; exact k4 Ai oA AiL eA
            · show Keep0 s.heap s5.heap
              rw [h5]; exact k4'
        have C4 := hC.keeps k4'
        obtain ⟨fm, im, hfm⟩ := C4
        refine wpAny_execs_cons (wpAny_If (wpAny_isTrue_Compare1 (nmL ns4 rfl (nmL ns4 hmC (wpAny_in_intMap im (wpAny_truthy_bool ?_))))))
        have hck := hfm (q.f i).2
        cases hst : st (q.f i).2 with
        | none =>
          rw [hst] at hck
          rw [hck]
          refine itF rfl (wpAny_execs_nil (wpAny_execs_nil ?_))
          exact inv _ rfl rfl rfl (by unfold candAt; rw [hst])
        | some f =>
          rw [hst] at hck
          obtain ⟨tf, hck⟩ := hck
          rw [hck]
          refine itT rfl (wpAny_execs_cons (wpAny_If (wpAny_isTrue_Not (wpAny_isTrue_Compare1 ?_))))
          refine wpAny_BinOp (Subscript_ (nmL (s := ⟨s4.heap, _, _, _, _⟩) ns4 hmC (nmL (s := ⟨s4.heap, _, _, _, _⟩) ns4 rfl (subscriptTail_builtin (s := ⟨s4.heap, _, _, _, _⟩) im.typeIs slot_dict_getitem.lookup (wpAny_getItem_intMap (s := ⟨s4.heap, _, _, _, _⟩) im hck ?_)))))
          have cell : ∀ s6 : Shared, s6.heap = s4.heap → s6.heap.IsCell cD (some (.int 4 t4)) := fun s6 e => by rw [e]; exact hcD.keeps k4'
          refine nmF (cell _ rfl) (and_int (nmF (cell _ rfl) (eq_int (wpAny_truthy_bool ?_))))
          rw [and4_eq]
          cases hfd : f.d with
          | true =>
            refine itF rfl (wpAny_execs_nil (wpAny_execs_nil (wpAny_execs_nil ?_)))
            exact inv _ rfl rfl rfl (by simp [candAt, hst, hfd])
          | false =>
            refine itT rfl (wpAny_execs_cons (wpAny_Return_some (wpAny_Constant_bool ?_)))
            refine h _ true ⟨x4.os.trans (gst.os.trans hos), fun _ => ?_, fun b o _ e => k4' b o e⟩ (fun _ => ⟨i, by omega, by simp [candAt, hst, hfd]⟩) fun z => by cases z
            show AllBare s4.gens
            rw [x4.gens, gens3]
            exact bare_push hG hb'
    · obtain ⟨rfl, _, gst⟩ := hr
      refine wpAny_execs_nil ?_
      refine wpAny_execs_cons (wpAny_Return_some (wpAny_Constant_bool ?_))
      refine h _ false ⟨?_, fun _ => ?_, fun b o _ e => kh b o (gst.old k0 b o e)⟩ (fun z => by cases z) fun _ j hj => hbe j (by omega)
      · exact gst.os.trans hos
      · show AllBare (s₃.gens.setIfInBounds _ _)
        rw [gst.gens]
        show AllBare ((s'.gens.setIfInBounds _ _).setIfInBounds _ _)
        rw [hgens, push_set2]
        exact bare_push hG rfl
  · refine ⟨0, _, _, rfl, fun j hj => absurd hj (Nat.not_lt_zero _), os₂.trans x₁.os, kk, ns₁.keeps k₂, rfl, hgen, gens₂, rfl, rfl, ?_⟩
    exact iter_start (A := (A.deeper (callEnv (fdN "_find_lcas.<locals>._has_candidates" hcSt [("_DNC", cD)] doc pm c' ctv) L HF)).in1) (s := s₂.setGen s.gens.size .running) hh0 gd hW hDW hP hq nsg (no hLg) kk
end
end Mine
end

section
/-! D1 -/
open PySem PySem.W PySem.Calls PyProof.Rows
set_option maxRecDepth 100000
namespace Mine
abbrev IMap (w : World) (h : Heap) (d : Addr) (f : Int → Option Value) : Prop := h.MapOf (intKind prg w) d f
theorem is_int (w : World) (k : Int) (t : Tok) : (intKind prg w).is k (.int k t) = true := by simp [intKind, Value.isInt]
/-- the states of the commits, in a plain dict -/
def StM (w : World) (h : Heap) (C : Addr) (st : St) : Prop := ∃ fm, IMap w h C fm ∧ ∀ k, match st k with
  | none => fm k = none
  | some f => ∃ t, fm k = some (.int f.n t)
theorem StM.keeps {w : World} {h h' : Heap} {C : Addr} {st : St} (x : StM w h C st) (k : ∀ b o, h.get? b = some o → h'.get? b = some o) : StM w h' C st := by
  obtain ⟨fm, ⟨o, es, ep, ho, r⟩, z⟩ := x
  exact ⟨fm, ⟨o, es, ep, k _ _ ho, r⟩, z⟩
theorem StM.at {w : World} {h : Heap} {C : Addr} {st : St} (x : StM w h C st) : StAt h C st := by
  obtain ⟨fm, m, z⟩ := x
  exact ⟨fm, m.intMap, z⟩
section
variable {w : World} {A : Around} {E : Value → Shared → Prop} {s : Shared} {mg mb : Str → Option Value}

/-- a dict's entry set, with a bound on how many entries there are -/
theorem dictSet_le {d : Addr} {f : Int → Option Value} {k : Int} {t : Tok} {v : Value} {Q : Unit → Shared → Prop} {n : Nat} (hm : IMap w s.heap d f) (hz : s.heap.DictLe d n) (hn : n ≤ sizeLine)
    (hQ : ∀ h', IMap w h' d (fun x => if x = k then some v else f x) → h'.DictLe d (n + 1) → Heap.SameBut d s.heap h' → Q () { s with heap := h', toks := s.toks + 1 }) :
    wpAny (model prg w) A (dictSet d (.int k t) v) Q E s := by
  have hkey := is_int w k t
  obtain ⟨o, es, ep, ho, hc, hd, hk, hf⟩ := hm
  have hes : es.size ≤ n := hz o es ep ho hd
  unfold dictSet
  refine wpAny_holding ?_
  refine wpAny_bind ((intKind prg w).pyHash hkey ?_)
  unfold dictSetHashed
  refine wpAny_holding ?_
  refine wpAny_bind (wpAny_dictFind_of (s := { s with toks := s.toks + 1 }) hkey ho hd hk ?_)
  cases hi : es.findIdx? fun e => (intKind prg w).is k e.key with
  | some i =>
    refine wpAny_bind (wpAny_rule (wpAny_bind (wpAny_updateDict (s := { s with toks := s.toks + 1 }) ho hd (wpAny_point (hQ _ ⟨_, _, ep, Heap.get?_update_self _ ho (Obj.isFreed_of_dict (Obj.data_mapDict hd _)), hc.mapDict _, Obj.data_mapDict hd _, hk.modify _ _, fun x => ?_⟩ ?_ (Heap.SameBut.update ..))))))
    · rw [findBy_modify (intKind prg w).is (intKind prg w).inj es k x v i hi, hf]
    · intro o' es' ep' ho' hd'
      rw [Heap.get?_update_self _ ho (Obj.isFreed_of_dict (Obj.data_mapDict hd _))] at ho'; cases ho'
      rw [Obj.data_mapDict hd _] at hd'; cases hd'
      rw [Array.size_modify]; omega
  | none =>
    refine wpAny_bind (wpAny_rule (wpAny_updateDictKeys (hz := Nat.le_trans hes hn) (s := { s with toks := s.toks + 1 }) ho hd (hQ _ ⟨_, _, ep + 1, Heap.get?_update_self _ ho (Obj.isFreed_of_dict (Obj.data_mapDictKeys hd _)),
      hc.mapDictKeys _, Obj.data_mapDictKeys hd _, hk.push hkey _, fun x => ?_⟩ ?_ (Heap.SameBut.update ..))))
    · rw [findBy_push (intKind prg w).is es k x _ _ v (KeyKind.is_eq_decide hkey) hi, hf]
    · intro o' es' ep' ho' hd'
      rw [Heap.get?_update_self _ ho (Obj.isFreed_of_dict (Obj.data_mapDictKeys hd _))] at ho'; cases ho'
      rw [Obj.data_mapDictKeys hd _] at hd'; cases hd'
      rw [Array.size_push]; omega

theorem setItem_le {d : Addr} {f : Int → Option Value} {k : Int} {t : Tok} {v : Value} {Q : Unit → Shared → Prop} {n : Nat} (hm : IMap w s.heap d f) (hz : s.heap.DictLe d n) (hn : n ≤ sizeLine)
    (hQ : ∀ h', IMap w h' d (fun x => if x = k then some v else f x) → h'.DictLe d (n + 1) → Heap.SameBut d s.heap h' → Q () { s with heap := h', toks := s.toks + 1 }) :
    wpAny (model prg w) A (setItem (.ref d) (.int k t) v) Q E s := by
  unfold setItem
  refine wpAny_holding ?_
  refine wpAny_bind (wpAny_sequenceKey hm.typeIs (by decide) ?_)
  refine wpAny_bind (wpAny_callSpecial?_slot (name := Str.ofString "__setitem__") hm.typeIs slot_dict_setitem (wpAny_call_entry slot_dict_setitem hm.typeIs entry_dict_setitem ?_ (args_dict_setitem _ _ _)))
  show wpAny _ _ (Builtin.Dict.notOrdered "__setitem__" ⟨[.ref d, .int k t, v], []⟩ >>= _) _ _ s
  refine wpAny_bind (wpAny_notOrdered_dict hm.typeIs ?_)
  show wpAny _ _ (dictSet d (.int k t) v >>= _) _ _ s
  exact wpAny_bind (dictSet_le hm hz hn fun h' h1 h2 h3 => wpAny_pure ⟨.none, rfl, wpAny_pure (hQ h' h1 h2 h3)⟩)
end
end Mine
end

section
/-! F1 -/
open PySem PySem.W PySem.Calls PyProof.Rows
set_option maxRecDepth 100000
namespace Mine

theorem codeAmong_app {pos : Pos} : ∀ (l t : List Value), TriplesOk l → codeAmong pos (l ++ t) = match codeAmong pos l with | some c => some c | none => codeAmong pos t
  | [], t, _ => by simp [codeAmong]
  | .int a x :: .int b y :: c :: rest, t, h => by
    have ih := codeAmong_app (pos := pos) rest t h
    simp only [List.cons_append, codeAmong]
    split
    · rfl
    · exact ih
theorem triples_app : ∀ (l : List Value) (a b : Int) (x y : Tok) (c : Value), TriplesOk l → TriplesOk (l ++ [.int a x, .int b y, c])
  | [], _, _, _, _, _, _ => trivial
  | .int _ _ :: .int _ _ :: _ :: rest, a, b, x, y, c, h => triples_app rest a b x y c h

theorem triples_no_str {ps : Array Value} {x : Str} {t : Tok} (h : TriplesOk ps.toList) (e : ps[1]? = some (.str x t)) : False := by
  rw [← Array.getElem?_toList] at e
  revert h e
  cases ps.toList with
  | nil => intro h e; cases e
  | cons a l =>
    intro h e
    cases l with
    | nil => cases e
    | cons b r =>
      simp only [List.getElem?_cons_succ, List.getElem?_cons_zero, Option.some.injEq] at e
      subst e
      cases a <;> simp [TriplesOk] at h
/-- the table of code objects of a def that makes defs: each of `es` is not yet in it, or in it with its name -/
def TabOk (c P : Addr) (es : List (Pos × Str)) (h : Heap) : Prop :=
  CodeHd h c P ∧ ∃ ps, h.get? P = some (tabObj ps) ∧ TriplesOk ps.toList ∧ ∀ e ∈ es, codeAmong e.1 ps.toList = none ∨ ∃ c', codeAmong e.1 ps.toList = some (.ref c') ∧ h.CodeRec (.ref c') e.2
theorem TabOk.keeps {c P : Addr} {es : List (Pos × Str)} {h h' : Heap} (x : TabOk c P es h) (k : ∀ b o, h.get? b = some o → h'.get? b = some o) : TabOk c P es h' := by
  obtain ⟨a, ps, e, t, r⟩ := x
  exact ⟨a.keeps k, ps, k _ _ e, t, fun q hq => (r q hq).imp id fun ⟨c', e1, e2⟩ => ⟨c', e1, e2.keeps k⟩⟩
section
variable {w : World} {A : Around} {E : Value → Shared → Prop} {s : Shared} {mg mb : Str → Option Value} {prog : Program}

theorem Gd.at (gd : Gd w mg mb s.heap) {P : Addr} {o : Obj} (hP : s.heap.get? P = some o) {vs : Array Value} (hd : o.data = .fields vs) : s.heap.BuiltinsAt mg P := by
  obtain ⟨e, ob, h1, h2, h3, h4⟩ := gd.M
  refine ⟨4, ob, e, by decide, by decide, fun z => ?_, h1, h2, h3, h4⟩
  rw [← z, h1] at hP; cases hP
  rw [h4] at hd; cases hd

/-- a def made within a def: by a new code object, or by the one made before -/
theorem mkDef {name qual : Str} {params : Arguments} {body : List Stmt} {scope : Scope} {env : Env} {c P : Addr} {es : List (Pos × Str)} {pos : Pos} {fl : Nat} {clos : List (Str × Addr)} {Q : Value → Shared → Prop}
    (gd : Gd w mg mb s.heap) (hT : TabOk c P es s.heap) (hin : (pos, qual) ∈ es) (hap : ∀ e ∈ es, e.1.line = pos.line ∧ e.1.col = pos.col → e = (pos, qual))
    (hcl : closureFor scope env = pure clos) (hge : env.globals = mainGlobals) (hcode : env.code = .ref c)
    (h : ∀ f c' ctv doc pm s', Nx s s' → (∀ b o, b ≠ P → s.heap.get? b = some o → s'.heap.get? b = some o) → s.heap.get? f = none → TabOk c P es s'.heap →
      s'.heap.get? f = some (fnO (fnX name qual params body scope clos .none .none doc pm none (.ref c') ctv)) → s'.heap.CodeRec (.ref c') qual → Q (.ref f) s') :
    wpAny (model prog w) A (makeFunction name qual params (.stmts body) scope env [] [] [] pos fl) Q E s := by
  obtain ⟨hC, ps, hP, ht, hes⟩ := hT
  have hb : s.heap.BuiltinsAt mg P := gd.at hP rfl
  have hgP : mainGlobals ≠ P := fun z => by
    obtain ⟨o, es', ep, e, d, _⟩ := gd.G
    rw [z, hP] at e; cases e; cases d
  rcases hes _ hin with hn | ⟨c', hh, hr⟩
  · refine makeFunction_K hcl hge gd.G hcode hC hP ht hn hgP hb fun c' ctv doc h' tk ext hge' hlt hrec htab => ?_
    have kk : ∀ b o, b ≠ P → s.heap.get? b = some o → (h'.push (fnMade name qual params body scope clos doc ((mg "__name__").getD .none) c' ctv)).get? b = some o := fun b o hb' e => Heap.get?_push_of_some _ (ext b o hb' e)
    refine h h'.objs.size c' ctv doc _ _ ⟨rfl, rfl⟩ kk ?_ ?_ (Heap.get?_push_size _ rfl) (hrec.push _)
    · cases q : s.heap.get? h'.objs.size with
      | none => rfl
      | some o => exact absurd (Nat.lt_of_lt_of_le (Heap.lt_size q) (Nat.le_trans hge' (Nat.le_of_lt hlt))) (Nat.lt_irrefl _)
    · refine ⟨?_, _, Heap.get?_push_of_some _ htab, ?_, fun e he => ?_⟩
      · obtain ⟨o, vs, file, tf, flags, tg, inF, text, tt, e1, e2, e3, e4, r1, r2, r3, r4, r5, r6⟩ := hC
        exact ⟨o, vs, file, tf, flags, tg, inF, text, tt, kk _ _ r6 e1, e2, e3, e4, r1, r2, r3, r4, r5, r6⟩
      · have : (ps ++ #[rawInt pos.line, rawInt pos.col, Value.ref c']).toList = ps.toList ++ [rawInt pos.line, rawInt pos.col, .ref c'] := by simp
        rw [this]; exact triples_app _ _ _ _ _ _ ht
      · have e1 : (ps ++ #[rawInt pos.line, rawInt pos.col, Value.ref c']).toList = ps.toList ++ [rawInt pos.line, rawInt pos.col, .ref c'] := by simp
        rw [e1, codeAmong_app _ _ ht]
        rcases hes e he with hn' | ⟨c₂, hh', hr'⟩
        · rw [hn']
          by_cases hm : e.1.line = pos.line ∧ e.1.col = pos.col
          · have := hap e he hm
            subst this
            right
            refine ⟨c', ?_, hrec.push _⟩
            simp [codeAmong, rawInt]
          · left
            simp only [codeAmong, rawInt]
            rw [if_neg]
            intro z
            simp only [Bool.and_eq_true, beq_iff_eq, Int.natCast_inj] at z
            exact hm ⟨z.1.symm, z.2.symm⟩
        · rw [hh']
          right
          refine ⟨c₂, rfl, ?_⟩
          obtain ⟨c3, o, vs, t, x1, x2, x3, x4⟩ := hr'
          refine ⟨c3, o, vs, t, x1, kk c3 o (fun z => ?_) x2, x3, x4⟩
          subst z
          rw [hP] at x2
          cases x2
          cases x3
          exact triples_no_str ht x4
  · refine makeFunction_hit hcl hge gd.G hcode hC hP ht hh hb fun ctv doc h' tk k _ => ?_
    have kk : ∀ b o, s.heap.get? b = some o → (h'.push (fnMade name qual params body scope clos doc ((mg "__name__").getD .none) c' ctv)).get? b = some o := fun b o e => Heap.get?_push_of_some _ (k b o e)
    refine h h'.objs.size c' ctv doc _ _ ⟨rfl, rfl⟩ (fun b o _ e => kk b o e) ?_ (TabOk.keeps ⟨hC, ps, hP, ht, hes⟩ kk) (Heap.get?_push_size _ rfl) (hr.keeps kk)
    cases q : s.heap.get? h'.objs.size with
    | none => rfl
    | some o => exact absurd (Heap.lt_size (k _ _ q)) (Nat.lt_irrefl _)
end
end Mine
end

section
/-! F2 -/
open PySem PySem.W PySem.Calls PyProof.Rows
set_option maxRecDepth 100000
namespace Mine

def Loc (m : Str → Option Value) (l : List (Str × Value)) : Prop := ∀ p ∈ l, m p.1 = some p.2
theorem upd_self (m : Str → Option Value) (x : Str) (v : Value) : upd m x v x = some v := by simp [upd]
theorem upd_ne (m : Str → Option Value) {x y : Str} (v : Value) (h : y ≠ x) : upd m x v y = m y := by simp [upd, h]
theorem Loc.upd {m : Str → Option Value} {l : List (Str × Value)} (h : Loc m l) {x : Str} (v : Value) (hx : (l.map (·.1)).all (fun n => n != x) = true) : Loc (upd m x v) l := fun p hp => by
  have := List.all_eq_true.mp hx p.1 (List.mem_map_of_mem hp)
  rw [upd_ne _ _ (by simpa using this)]
  exact h p hp
theorem Loc.at {m : Str → Option Value} {l : List (Str × Value)} (h : Loc m l) {x : Str} {v : Value} (e : l.lookup x = some v) : m x = some v := h (x, v) (mem_of_lookup e)
theorem Loc.cons {m : Str → Option Value} {l : List (Str × Value)} (h : Loc m l) {x : Str} {v : Value} (e : m x = some v) : Loc m ((x, v) :: l) := fun p hp => by
  rcases List.mem_cons.mp hp with rfl | hp
  · exact e
  · exact h p hp

def kd : Data → Nat
  | .plain => 0
  | .dict .. => 1
  | .seq .. => 2
  | .fields .. => 3
  | .cell .. => 4
  | .func .. => 5
  | _ => 6
theorem ne_kd {h : Heap} {a b : Addr} {oa ob : Obj} (ha : h.get? a = some oa) (hb : h.get? b = some ob) (hk : kd oa.data ≠ kd ob.data) : a ≠ b := fun z => by
  subst z; rw [ha] at hb; cases hb; exact hk rfl

def TupsAt (h : Heap) (items : Array Value) (cs : List PI) : Prop :=
  items.size = cs.length ∧ ∀ i, (hi : i < cs.length) → ∃ a t u, items[i]? = some (.ref a) ∧ IsTup h a #[.int (cs[i]).1 t, .int (cs[i]).2 u]
theorem tup_kd {h h' : Heap} {x a : Addr} {ox : Obj} {xs : Array Value} (hx : h.get? x = some ox) (hk : kd ox.data = 1 ∨ ox.cls = .type "list") (k : ∀ b o, b ≠ x → h.get? b = some o → h'.get? b = some o) (y : IsTup h a xs) : IsTup h' a xs := by
  obtain ⟨o, ho, hc, n, hd⟩ := y
  refine ⟨o, k a o (fun z => ?_) ho, hc, n, hd⟩
  subst z
  rw [hx] at ho; cases ho
  rcases hk with hk | hk
  · rw [hd] at hk; cases hk
  · rw [hc] at hk; exact absurd (Value.type.inj hk) (by decide)

structure Ids where
  L : Addr
  C : Addr
  DW : Addr
  W : Addr
  P : Addr
  CA : Addr
  cD : Addr
  HF : Addr
  c' : Addr
  tk : Tok
  tmn : Tok
  t1 : Tok
  t2 : Tok
  t4 : Tok
  t8 : Tok
  hsh : Int
  doc : Value
  pm : Value
  ctv : Value
  fpar : Addr
  fst : Addr
  mn : Int
  oS : OsState

def Ids.vars (I : Ids) : List (Str × Value) := [("lookup_parents", .ref I.fpar), ("lookup_stamp", .ref I.fst), ("min_stamp", .int I.mn I.tmn), ("shallows", .none), ("cands", .ref I.CA), ("cstates", .ref I.C),
  ("_ANC_OF_1", .int 1 I.t1), ("_ANC_OF_2", .int 2 I.t2), ("_LCA", .int 8 I.t8), ("_has_candidates", .ref I.HF), ("wlst", .ref I.W)]
def hcQual : Str := "_find_lcas.<locals>._has_candidates"
def lamQual : Str := "_find_lcas.<locals>.<lambda>"
def posM : Stmt → Pos
  | .FunctionDef _ _ _ _ _ _ _ _ _ pos => pos
  | _ => ⟨0, 0, 0, 0⟩
def hcPos : Pos := posM hcSt
def lamPos : Pos := match (bodyM (topSt 3)).getD 14 (.Pass ⟨0, 0, 0, 0⟩) with
  | .Expr (.Call _ _ [⟨_, .Lambda _ _ _ p, _⟩] _) _ => p
  | _ => ⟨0, 0, 0, 0⟩
def tabEs : List (Pos × Str) := [(hcPos, hcQual), (lamPos, lamQual)]

/-- what holds of everything but the four objects that a turn changes -/
structure FB (w : World) (mg mb : Str → Option Value) (hB : Heap) (I : Ids) (s : Shared) : Prop where
  keep : ∀ b o, b ≠ 87 → hB.get? b = some o → s.heap.get? b = some o
  bare : AllBare s.gens
  os : s.os = I.oS
  tab : TabOk 89 87 tabEs s.heap
  w : s.heap.get? I.W = some (instObj 80 I.DW)
  dw : s.heap.get? I.DW = some (dictOf [⟨I.hsh, .str "pq" I.tk, .ref I.P⟩] 1)
  cell : ∃ o, s.heap.get? I.cD = some o ∧ o.data = .cell (some (.int 4 I.t4))
  hf : s.heap.get? I.HF = some (fnO (fdN hcQual hcSt [("_DNC", I.cD)] I.doc I.pm I.c' I.ctv))
  code : s.heap.CodeRec (.ref I.c') hcQual

theorem FB.move {w : World} {mg mb : Str → Option Value} {hB : Heap} {I : Ids} {s s' : Shared} (x : FB w mg mb hB I s) {a : Addr} {oa : Obj} (ha : s.heap.get? a = some oa) (hk : kd oa.data = 1 ∨ kd oa.data = 2)
    (hn : a ≠ I.DW) (hf : hB.get? a = none) (k : ∀ b o, b ≠ a → s.heap.get? b = some o → s'.heap.get? b = some o) (hb : AllBare s.gens → AllBare s'.gens) (ho : s'.os = s.os) : FB w mg mb hB I s' := by
  have go : ∀ {b : Addr} {o : Obj}, s.heap.get? b = some o → kd o.data ≠ 1 → kd o.data ≠ 2 → s'.heap.get? b = some o := fun {b o} e h1 h2 => k b o (ne_kd e ha (by rcases hk with h | h <;> rw [h] <;> assumption)) e
  have cr : ∀ {cd : Value} {q : Str}, s.heap.CodeRec cd q → s'.heap.CodeRec cd q := fun ⟨c, o, vs, t, e1, e2, e3, e4⟩ => ⟨c, o, vs, t, e1, go e2 (by simp [kd, e3]) (by simp [kd, e3]), e3, e4⟩
  refine ⟨fun b o h87 e => k b o (fun z => by rw [z, hf] at e; cases e) (x.keep b o h87 e), hb x.bare, ho.trans x.os, ?_, go x.w (by simp [kd, instObj]) (by simp [kd, instObj]), k _ _ hn.symm x.dw, ?_, go x.hf (by simp [kd, fnO]) (by simp [kd, fnO]), cr x.code⟩
  · obtain ⟨⟨o, vs, file, tf, flags, tg, inF, text, tt, e1, e2, e3, r⟩, ps, e, t, z⟩ := x.tab
    exact ⟨⟨o, vs, file, tf, flags, tg, inF, text, tt, go e1 (by simp [kd, e3]) (by simp [kd, e3]), e2, e3, r⟩, ps, go e (by simp [kd, tabObj]) (by simp [kd, tabObj]), t, fun q hq => (z q hq).imp id fun ⟨c', h1, h2⟩ => ⟨c', h1, cr h2⟩⟩
  · obtain ⟨o, e, d⟩ := x.cell
    exact ⟨o, go e (by simp [kd, d]) (by simp [kd, d]), d⟩
theorem FB.ext {w : World} {mg mb : Str → Option Value} {hB : Heap} {I : Ids} {s s' : Shared} (x : FB w mg mb hB I s) (e : Ext [] s s') : FB w mg mb hB I s' := by
  have k : ∀ b o, s.heap.get? b = some o → s'.heap.get? b = some o := fun b o h => e.keep b o (by simp) h
  obtain ⟨o, h1, h2⟩ := x.cell
  exact ⟨fun b o h87 h => k b o (x.keep b o h87 h), e.bare x.bare, e.os.trans x.os, x.tab.keeps k, k _ _ x.w, k _ _ x.dw, ⟨o, k _ _ h1, h2⟩, k _ _ x.hf, x.code.keeps k⟩

structure FS (w : World) (mg mb : Str → Option Value) (hB : Heap) (I : Ids) (m : Str → Option Value) (items : Array Value) (q : Qu) (st : St) (nD : Nat) (cits : Array Value) (cs : List PI) (s : Shared) : Prop where
  base : FB w mg mb hB I s
  ns : s.heap.Ns I.L m
  loc : Loc m I.vars
  p : s.heap.IsList I.P items
  qa : QuAt s.heap items q
  hp : Heaped q.f q.n
  c : StM w s.heap I.C st
  le : s.heap.DictLe I.C nD
  ca : s.heap.PlainList I.CA cits
  cat : TupsAt s.heap cits cs
  n1 : I.L ≠ I.C
  n2 : I.L ≠ I.DW
  n3 : I.C ≠ I.DW
  n4 : I.P ≠ I.CA
  n5 : (I.C == sysModules) = false
  f1 : hB.get? I.L = none
  f2 : hB.get? I.C = none
  f3 : hB.get? I.P = none
  f4 : hB.get? I.CA = none

section
variable {w : World} {mg mb : Str → Option Value} {hB : Heap} {I : Ids} {m : Str → Option Value} {items : Array Value} {q : Qu} {st : St} {nD : Nat} {cits : Array Value} {cs : List PI} {s s' : Shared}

theorem FS.ext (x : FS w mg mb hB I m items q st nD cits cs s) (e : Ext [] s s') : FS w mg mb hB I m items q st nD cits cs s' := by
  have k : ∀ b o, s.heap.get? b = some o → s'.heap.get? b = some o := fun b o h => e.keep b o (by simp) h
  obtain ⟨fm, ⟨oc, es, ep, hoc, r⟩, z⟩ := x.c
  refine ⟨x.base.ext e, x.ns.keeps k, x.loc, stays_list k x.p, x.qa.keeps k, x.hp, x.c.keeps k, x.le.of_same hoc (k _ _ hoc), x.ca.at (fun o e => k _ _ e), ⟨x.cat.1, fun i hi => ?_⟩, x.n1, x.n2, x.n3, x.n4, x.n5, x.f1, x.f2, x.f3, x.f4⟩
  obtain ⟨a, t, u, h1, h2⟩ := x.cat.2 i hi
  exact ⟨a, t, u, h1, h2.keeps k⟩

/-- a local name set -/
theorem FS.local (x : FS w mg mb hB I m items q st nD cits cs s) {m' : Str → Option Value} (nx : Nx s s') (ns : s'.heap.Ns I.L m') (k : KpB I.L s s') (hm : Loc m' I.vars) :
    FS w mg mb hB I m' items q st nD cits cs s' := by
  obtain ⟨oL, es, ep, eL, dL, _⟩ := x.ns
  have kL : kd oL.data = 1 := by rw [dL]; rfl
  obtain ⟨oP, eP, cP, nP, dP⟩ := id x.p
  obtain ⟨oA, eA, cA, nA, dA⟩ := id x.ca.isList
  have hLP : I.P ≠ I.L := ne_kd eP eL (by simp [kd, dP, dL])
  have hLA : I.CA ≠ I.L := ne_kd eA eL (by simp [kd, dA, dL])
  have tk : ∀ {a : Addr} {xs : Array Value}, IsTup s.heap a xs → IsTup s'.heap a xs := fun h => tup_kd eL (.inl kL) k h
  obtain ⟨fm, ⟨oc, es', ep', hoc, r⟩, z⟩ := id x.c
  refine ⟨x.base.move eL (.inl kL) x.n2 x.f1 k (fun b => by rw [nx.gens]; exact b) nx.os, ns, hm, ⟨oP, k _ _ hLP eP, cP, nP, dP⟩, ⟨x.qa.1, fun i hi => ?_⟩, x.hp, ⟨fm, ⟨oc, es', ep', k _ _ x.n1.symm hoc, r⟩, z⟩,
    x.le.of_same hoc (k _ _ x.n1.symm hoc), x.ca.at (fun o e => by rw [eA] at e; cases e; exact k _ _ hLA eA), ⟨x.cat.1, fun i hi => ?_⟩, x.n1, x.n2, x.n3, x.n4, x.n5, x.f1, x.f2, x.f3, x.f4⟩
  · obtain ⟨a, t, u, h1, h2⟩ := x.qa.2 i hi
    exact ⟨a, t, u, h1, tk h2⟩
  · obtain ⟨a, t, u, h1, h2⟩ := x.cat.2 i hi
    exact ⟨a, t, u, h1, tk h2⟩

/-- the queue changed -/
theorem FS.que (x : FS w mg mb hB I m items q st nD cits cs s) {items' : Array Value} {q' : Qu} (e : Ext [I.P] s s') (hP : s'.heap.IsList I.P items') (hq : QuAt s'.heap items' q') (hh : Heaped q'.f q'.n) :
    FS w mg mb hB I m items' q' st nD cits cs s' := by
  have k : ∀ b o, b ≠ I.P → s.heap.get? b = some o → s'.heap.get? b = some o := fun b o hb h => e.keep b o (by simpa using hb) h
  obtain ⟨oL, es, ep, eL, dL, rL⟩ := id x.ns
  obtain ⟨oP, eP, cP, nP, dP⟩ := id x.p
  obtain ⟨oA, eA, cA, nA, dA⟩ := id x.ca.isList
  have kP : kd oP.data = 2 := by rw [dP]; rfl
  have hLP : I.L ≠ I.P := ne_kd eL eP (by simp [kd, dP, dL])
  have hPD : I.P ≠ I.DW := ne_kd eP x.base.dw (by simp [kd, dP, dictOf])
  have tk : ∀ {a : Addr} {xs : Array Value}, IsTup s.heap a xs → IsTup s'.heap a xs := fun h => tup_kd eP (.inr cP) k h
  obtain ⟨fm, ⟨oc, es', ep', hoc, hcc, hcd, r⟩, z⟩ := id x.c
  have hCP : I.C ≠ I.P := ne_kd hoc eP (by simp [kd, dP, hcd])
  refine ⟨x.base.move eP (.inr kP) hPD x.f3 k e.bare e.os, ⟨oL, es, ep, k _ _ hLP eL, dL, rL⟩, x.loc, hP, hq, hh, ⟨fm, ⟨oc, es', ep', k _ _ hCP hoc, hcc, hcd, r⟩, z⟩,
    x.le.of_same hoc (k _ _ hCP hoc), x.ca.at (fun o e => by rw [eA] at e; cases e; exact k _ _ x.n4.symm eA), ⟨x.cat.1, fun i hi => ?_⟩, x.n1, x.n2, x.n3, x.n4, x.n5, x.f1, x.f2, x.f3, x.f4⟩
  obtain ⟨a, t, u, h1, h2⟩ := x.cat.2 i hi
  exact ⟨a, t, u, h1, tk h2⟩

/-- the states changed -/
theorem FS.cst (x : FS w mg mb hB I m items q st nD cits cs s) {st' : St} {nD' : Nat} {h' : Heap} {tk' : Tok} (hs : Heap.SameBut I.C s.heap h') (hC : StM w h' I.C st') (hl : h'.DictLe I.C nD') :
    FS w mg mb hB I m items q st' nD' cits cs { s with heap := h', toks := tk' } := by
  have k : ∀ b o, b ≠ I.C → s.heap.get? b = some o → h'.get? b = some o := fun b o hb h => (hs.2 b hb).trans h
  obtain ⟨oL, es, ep, eL, dL, rL⟩ := id x.ns
  obtain ⟨oP, eP, cP, nP, dP⟩ := id x.p
  obtain ⟨oA, eA, cA, nA, dA⟩ := id x.ca.isList
  obtain ⟨fm, ⟨oc, es', ep', hoc, hcc, hcd, r⟩, z⟩ := id x.c
  have kC : kd oc.data = 1 := by rw [hcd]; rfl
  have hPC : I.P ≠ I.C := ne_kd eP hoc (by simp [kd, dP, hcd])
  have hAC : I.CA ≠ I.C := ne_kd eA hoc (by simp [kd, dA, hcd])
  have tk : ∀ {a : Addr} {xs : Array Value}, IsTup s.heap a xs → IsTup h' a xs := fun h => tup_kd hoc (.inl kC) k h
  refine ⟨x.base.move (s' := { s with heap := h', toks := tk' }) hoc (.inl kC) x.n3 x.f2 k id rfl, ⟨oL, es, ep, k _ _ x.n1 eL, dL, rL⟩, x.loc, ⟨oP, k _ _ hPC eP, cP, nP, dP⟩, ⟨x.qa.1, fun i hi => ?_⟩, x.hp, hC, hl, x.ca.at (fun o e => by rw [eA] at e; cases e; exact k _ _ hAC eA), ⟨x.cat.1, fun i hi => ?_⟩, x.n1, x.n2, x.n3, x.n4, x.n5, x.f1, x.f2, x.f3, x.f4⟩
  · obtain ⟨a, t, u, h1, h2⟩ := x.qa.2 i hi
    exact ⟨a, t, u, h1, tk h2⟩
  · obtain ⟨a, t, u, h1, h2⟩ := x.cat.2 i hi
    exact ⟨a, t, u, h1, tk h2⟩

/-- the candidates changed -/
theorem FS.can (x : FS w mg mb hB I m items q st nD cits cs s) {cits' : Array Value} {cs' : List PI} (k : ∀ b o, b ≠ I.CA → s.heap.get? b = some o → s'.heap.get? b = some o) (hb : AllBare s.gens → AllBare s'.gens) (ho : s'.os = s.os) (hl : s'.heap.PlainList I.CA cits') (ht : TupsAt s'.heap cits' cs') :
    FS w mg mb hB I m items q st nD cits' cs' s' := by
  obtain ⟨oL, es, ep, eL, dL, rL⟩ := id x.ns
  obtain ⟨oP, eP, cP, nP, dP⟩ := id x.p
  obtain ⟨oA, eA, cA, nA, dA⟩ := id x.ca.isList
  obtain ⟨fm, ⟨oc, es', ep', hoc, hcc, hcd, r⟩, z⟩ := id x.c
  have kA : kd oA.data = 2 := by rw [dA]; rfl
  have hLA : I.L ≠ I.CA := ne_kd eL eA (by simp [kd, dA, dL])
  have hAD : I.CA ≠ I.DW := ne_kd eA x.base.dw (by simp [kd, dA, dictOf])
  have hCA : I.C ≠ I.CA := ne_kd hoc eA (by simp [kd, dA, hcd])
  have tk : ∀ {a : Addr} {xs : Array Value}, IsTup s.heap a xs → IsTup s'.heap a xs := fun h => tup_kd eA (.inr cA) k h
  refine ⟨x.base.move eA (.inr kA) hAD x.f4 k hb ho, ⟨oL, es, ep, k _ _ hLA eL, dL, rL⟩, x.loc, ⟨oP, k _ _ x.n4 eP, cP, nP, dP⟩, ⟨x.qa.1, fun i hi => ?_⟩, x.hp, ⟨fm, ⟨oc, es', ep', k _ _ hCA hoc, hcc, hcd, r⟩, z⟩, x.le.of_same hoc (k _ _ hCA hoc), hl, ht, x.n1, x.n2, x.n3, x.n4, x.n5, x.f1, x.f2, x.f3, x.f4⟩
  obtain ⟨a, t, u, h1, h2⟩ := x.qa.2 i hi
  exact ⟨a, t, u, h1, tk h2⟩

/-- another list changed -/
theorem FS.lst (x : FS w mg mb hB I m items q st nD cits cs s) {a : Addr} {its : Array Value} (ha : s.heap.IsList a its) (hf : hB.get? a = none) (hP : I.P ≠ a) (hCA : I.CA ≠ a) (k : ∀ b o, b ≠ a → s.heap.get? b = some o → s'.heap.get? b = some o) (hb : AllBare s.gens → AllBare s'.gens) (ho : s'.os = s.os) :
    FS w mg mb hB I m items q st nD cits cs s' := by
  obtain ⟨oa, ea, ca, na, da⟩ := ha
  obtain ⟨oL, es, ep, eL, dL, rL⟩ := id x.ns
  obtain ⟨oP, eP, cP, nP, dP⟩ := id x.p
  obtain ⟨fm, ⟨oc, es', ep', hoc, hcc, hcd, r⟩, z⟩ := id x.c
  have kA : kd oa.data = 2 := by rw [da]; rfl
  have hLA : I.L ≠ a := ne_kd eL ea (by simp [kd, da, dL])
  have hAD : a ≠ I.DW := ne_kd ea x.base.dw (by simp [kd, da])
  have hC : I.C ≠ a := ne_kd hoc ea (by simp [kd, da, hcd])
  have tk : ∀ {t : Addr} {xs : Array Value}, IsTup s.heap t xs → IsTup s'.heap t xs := fun h => tup_kd ea (.inr ca) k h
  refine ⟨x.base.move ea (.inr kA) hAD hf k hb ho, ⟨oL, es, ep, k _ _ hLA eL, dL, rL⟩, x.loc, ⟨oP, k _ _ hP eP, cP, nP, dP⟩, ⟨x.qa.1, fun i hi => ?_⟩, x.hp, ⟨fm, ⟨oc, es', ep', k _ _ hC hoc, hcc, hcd, r⟩, z⟩, x.le.of_same hoc (k _ _ hC hoc), x.ca.at (fun o e => k _ _ hCA e), ⟨x.cat.1, fun i hi => ?_⟩, x.n1, x.n2, x.n3, x.n4, x.n5, x.f1, x.f2, x.f3, x.f4⟩
  · obtain ⟨a, t, u, h1, h2⟩ := x.qa.2 i hi
    exact ⟨a, t, u, h1, tk h2⟩
  · obtain ⟨a, t, u, h1, h2⟩ := x.cat.2 i hi
    exact ⟨a, t, u, h1, tk h2⟩
end
end Mine
end

section
/-! F3 -/
open PySem PySem.W PySem.Calls PyProof.Rows
set_option maxRecDepth 100000
namespace Mine

theorem mk80 (w : World) : makesIn (KK w) 80 = true := by kernel_rfl
theorem fInit80 (w : World) : findIn (KK w) (.ref 80) "__init__" = some (some (.ref 56)) := by kernel_rfl
theorem tInit (w : World) : typeIn (KK w) (.ref 56) = some (.type "function") := by kernel_rfl
theorem fSet80 (w : World) : findIn (KK w) (.ref 80) "__setattr__" = some (some (.builtin "object.__setattr__")) := by kernel_rfl
theorem po80 (w : World) : plainOver (KK w) 80 = true := by kernel_rfl
theorem tk80 (w : World) : takerIn (KK w) 80 "pq" = some none := by kernel_rfl
section
variable {prog : Program} {w : World} {A : Around} {E : Value → Shared → Prop} {s : Shared} {mg mb : Str → Option Value}

/-- a def of the top, called, as code -/
theorem callCode {f : Addr} {o : Obj} {fd : FuncData} {body : List Stmt} {args : Args} {binds : List (Str × Value)} {R : Result → Shared → Prop}
    (hroom : A.depth < recursionLimit) (ho : s.heap.get? f = some o) (hd : o.data = .func fd) (hbody : fd.body = .stmts body) (hcd : s.heap.CodeRec fd.code fd.qualname) (NL : s.heap.NoLimit)
    (hbind : BindsTo s fd args binds) (hcell : ∀ x ∈ fd.scope.names, x.2 ≠ .cell) (hloc : ∀ x ∈ binds, fd.scope.names.lookup x.1 = some .local)
    (h : ∀ s₁, Nx s s₁ → Kp s s₁ → s₁.heap.Ns s.heap.objs.size (fun x => binds.reverse.lookup x) →
      wpAny (model prog w) (A.deeper (callEnv fd s.heap.objs.size f)) (execs body (callEnv fd s.heap.objs.size f)) (fun fl s' => R (.ok (.ret (match fl with | .ret v => v | _ => .none))) s') (fun _ _ => False) s₁)
    (hco : fd.scope.isCoroutine = false) (hgen : fd.scope.isGenerator = false) (hk : fd.scope.kind = .function) :
    codeAny (model prog w) A (.call (.ref f) args) R s := by
  refine codeAny_call_function hroom ho hd hco hgen hbody hcd ?_
  refine hbind _ _ _ _ (wpAny_newFunctionEnv hcell hloc (fun h₁ hns hsb => ⟨NL.fresh _ hsb, ?_⟩) hk)
  refine codeAny_func (wpAny_mono (h _ ⟨rfl, rfl⟩ (fun b o e => hsb.extBut b o (Nat.ne_of_lt (Heap.lt_size e)) (Heap.get?_push_of_some _ e)) hns) (fun fl s' q => q) fun _ _ q => q.elim)

/-- a def with cells of its own, called -/
theorem callFnC {f : Addr} {o : Obj} {fd : FuncData} {body : List Stmt} {pos : List Value} {kw : List (Str × Value)} {binds : List (Str × Value)} {Q : Value → Shared → Prop}
    (hroom : A.depth < recursionLimit) (ho : s.heap.get? f = some o) (hd : o.data = .func fd) (hbody : fd.body = .stmts body) (hcd : s.heap.CodeRec fd.code fd.qualname) (NL : s.heap.NoLimit) (hcl : fd.closure = [])
    (hbind : BindsTo s fd ⟨pos, kw⟩ binds) (hloc : ∀ x ∈ binds, fd.scope.names.lookup x.1 = some .local)
    (h : ∀ env s₁, env = newEnv fd.scope s.heap.objs.size fd.globals (cellsFrom (s.heap.objs.size + 1) fd.scope.names []) (fd.qualname ++ Str.ofString ".<locals>.") (some f) fd.code none fd.builtins →
      InCallC s env.locals (bindL env.kindOf binds fun _ => none) env.cells (bindC env.kindOf binds fun _ => none) s₁ →
      wpAny (model prog w) (A.deeper env) (execs body env) (fun fl s' => Q (match fl with | .ret v => v | _ => .none) s') (fun _ _ => False) s₁)
    (hco : fd.scope.isCoroutine = false) (hgen : fd.scope.isGenerator = false) (hk : fd.scope.kind = .function) :
    wpAny (model prog w) A (call (.ref f) pos kw) Q E s := by
  refine wpAny_call (codeAny_call_function hroom ho hd hco hgen hbody hcd ?_)
  rw [hcl]
  refine hbind _ _ _ _ (wpAny_newFunctionEnv_cells hk (fun x hx => .inl (hloc x hx)) fun env he s' x => ?_)
  refine ⟨NL.keeps x.toInCall.keep, codeAny_func (wpAny_mono (h env s' he x) (fun fl s' q => ?_) fun _ _ q => q.elim)⟩
  cases fl <;> exact q

theorem new_wl {Q : Value → Shared → Prop} (gd : Gd w mg mb s.heap) (hd : A.depth + 2 < recursionLimit) (hh0 : A.handled = none)
    (h : ∀ s' x dx P tk hsh, Nx s s' → Kp s s' → s'.heap.get? x = some (instObj 80 dx) → s'.heap.get? dx = some (dictOf [⟨hsh, .str "pq" tk, .ref P⟩] 1) → s'.heap.IsList P #[] → s.heap.get? x = none → s.heap.get? dx = none →
      s.heap.get? P = none → Q (.ref x) s') :
    wpAny (model prg w) A (call (.ref 80) [] []) Q E s := by
  obtain ⟨hh, g, d, t, os⟩ := s
  refine wpAny_call (make_core (makes_of gd.X (mk80 w)) (looks_findIn gd.X (fInit80 w)) (fun self => bind_fn gd.X self (tInit w)) (.inl rfl) ?_)
  have kk : ∀ b o, hh.get? b = some o → ((hh.push emptyDict).push (instObj 80 hh.objs.size)).get? b = some o := fun b o e => Heap.get?_push_of_some _ (Heap.get?_push_of_some _ e)
  have gd2 : Gd w mg mb ((hh.push emptyDict).push (instObj 80 hh.objs.size)) := gd.keeps kk
  have hx : ((hh.push emptyDict).push (instObj 80 hh.objs.size)).get? (hh.objs.size + 1) = some (instObj 80 hh.objs.size) := by heap_get
  have hdx : ((hh.push emptyDict).push (instObj 80 hh.objs.size)).get? hh.objs.size = some emptyDict := by heap_get
  refine callCode (f := 56) (fd := fdInit) (body := bodyM (clsSt 0)) (binds := [("self", .ref (hh.objs.size + 1))]) (by show A.depth + 1 < recursionLimit; omega) (gd2.X 56 _ (k56 w)) rfl rfl (codeRec_of gd2.X (c55 w)) gd2.NL (BindsTo.of_eq rfl) (by decide) (locs rfl) (fun s₁ x₁ k₁ ns₁ => ?_) rfl rfl rfl
  have hL : hh.objs.size + 2 = ((hh.push emptyDict).push (instObj 80 hh.objs.size)).objs.size := by simp [Heap.size_push]
  have gd3 := gd2.keeps k₁
  refine wpAny_execs_cons (plainObj_wpAny_Assign_Attribute ?_ (by with_unfolding_all rfl))
  refine wpAny_List (wpAny_items_nil ⟨by show 0 ≤ sizeLine; exact Nat.zero_le _, ?_⟩)
  have k2 : ∀ b o, s₁.heap.get? b = some o → (s₁.heap.push { cls := .type "list", data := .seq ([] : List Value).toArray }).get? b = some o := fun b o e => Heap.get?_push_of_some _ e
  refine nmL (s := { s₁ with heap := s₁.heap.push _ }) (ns₁.keeps k2) rfl ?_
  have F : Fr hh ((hh.push emptyDict).push (instObj 80 hh.objs.size)).objs.size (s₁.heap.push { cls := .type "list", data := .seq ([] : List Value).toArray }) _ := ⟨ns₁.keeps k2, fun b o e => k2 b o (k₁ b o (kk b o e)), by omega⟩
  have nP : hh.get? s₁.heap.objs.size = none := by
    cases q : hh.get? s₁.heap.objs.size with
    | none => rfl
    | some o => exact absurd (Heap.lt_size (k₁ _ _ (kk _ _ q))) (Nat.lt_irrefl _)
  have lP : s₁.heap.objs.size ≠ ((hh.push emptyDict).push (instObj 80 hh.objs.size)).objs.size := fun z => by
    obtain ⟨o, _, _, e, _⟩ := ns₁
    rw [← z] at e
    exact absurd (Heap.lt_size e) (Nat.lt_irrefl _)
  have nx0 : hh.get? (hh.objs.size + 1) = none := by
    cases q : hh.get? (hh.objs.size + 1) with
    | none => rfl
    | some o => exact absurd (Heap.lt_size q) (Nat.not_lt_of_le (Nat.le_succ _))
  have N : News hh ((hh.push emptyDict).push (instObj 80 hh.objs.size)).objs.size (s₁.heap.push { cls := .type "list", data := .seq ([] : List Value).toArray })
      [(s₁.heap.objs.size, { cls := .type "list", data := .seq ([] : List Value).toArray }), (hh.objs.size + 1, instObj 80 hh.objs.size), (hh.objs.size, dictOf [] 0)] := by
    intro p hp
    simp only [List.mem_cons, List.not_mem_nil, or_false] at hp
    rcases hp with rfl | rfl | rfl
    · exact ⟨Heap.get?_push_size _ rfl, lP, nP⟩
    · exact ⟨k2 _ _ (k₁ _ _ hx), Nat.ne_of_lt (by omega), nx0⟩
    · exact ⟨k2 _ _ (k₁ _ _ hdx), Nat.ne_of_lt (by omega), fresh_size hh⟩
  have l1 : hh.objs.size + 1 < s₁.heap.objs.size := Heap.lt_size (k₁ _ _ hx)
  refine set_dict (s := { s₁ with heap := s₁.heap.push _ }) F gd.X N (x := hh.objs.size + 1) (C := 80) (dx := hh.objs.size) (ox := instObj 80 hh.objs.size) (es := []) (n := 0) ⟨(N _ (.tail _ (.head _))).1, rfl, rfl, (N _ (.tail _ (.tail _ (.head _)))).1⟩ rfl (fSet80 w) (po80 w) (tk80 w) (hd80 w) rfl rfl
    (.tail (Nat.ne_of_gt (by omega)) (.tail (Nat.ne_of_gt (by omega)) (.head (fun _ h => nomatch h)))) (by show 1 ≤ 1000; decide) fun h' F' N' => ?_
  refine wpAny_execs_nil ⟨rfl, ?_⟩
  exact h _ _ _ _ _ _ ⟨x₁.gens, x₁.os⟩ F'.keep (N' _ (.tail _ (.head _))).1 (N' _ (.tail _ (.tail _ (.head _)))).1 ⟨_, (N' _ (.head _)).1, rfl, _, rfl⟩ nx0 (fresh_size hh) nP
end
end Mine
end

section
/-! F4 -/
open PySem PySem.W PySem.Calls PyProof.Rows
set_option maxRecDepth 100000
namespace Mine
theorem b_le (f g : Fl) : (Builtin.bitAnd g.n f.n == f.n) = f.le g := by
  rcases f with ⟨a, b, d, l⟩; rcases g with ⟨a', b', d', l'⟩
  cases a <;> cases b <;> cases d <;> cases l <;> cases a' <;> cases b' <;> cases d' <;> cases l' <;> decide +kernel
theorem b_or (f g : Fl) : Builtin.bitOr g.n f.n = (g.or f).n := by
  rcases f with ⟨a, b, d, l⟩; rcases g with ⟨a', b', d', l'⟩
  cases a <;> cases b <;> cases d <;> cases l <;> cases a' <;> cases b' <;> cases d' <;> cases l' <;> decide +kernel
theorem b_low (f : Fl) : Builtin.bitAnd f.n (Builtin.bitOr (Builtin.bitOr 1 2) 4) = f.low.n := by
  rcases f with ⟨a, b, d, l⟩
  cases a <;> cases b <;> cases d <;> cases l <;> decide +kernel
theorem b_both (f : Fl) : (f.low.n == Builtin.bitOr 1 2) = (f.a && f.b && !f.d) := by
  rcases f with ⟨a, b, d, l⟩
  cases a <;> cases b <;> cases d <;> cases l <;> decide +kernel
theorem b_l (f : Fl) : (Builtin.bitAnd f.n 8 == 8) = f.l := by
  rcases f with ⟨a, b, d, l⟩
  cases a <;> cases b <;> cases d <;> cases l <;> decide +kernel
theorem b_setl (f : Fl) : Builtin.bitOr f.n 8 = Fl.n { f with l := true } := by
  rcases f with ⟨a, b, d, l⟩
  cases a <;> cases b <;> cases d <;> cases l <;> decide +kernel
theorem b_eff (f : Fl) (h : (f.a && f.b && !f.d) = true) : Builtin.bitOr f.low.n 4 = f.eff.n := by
  rcases f with ⟨a, b, d, l⟩
  revert h
  cases a <;> cases b <;> cases d <;> cases l <;> decide +kernel
theorem b_noeff (f : Fl) (h : (f.a && f.b && !f.d) = false) : f.low = f.eff := by
  rcases f with ⟨a, b, d, l⟩
  revert h
  cases a <;> cases b <;> cases d <;> cases l <;> first | (intro _; rfl) | (intro h; cases h)

def fE (L : Addr) : Env := newEnv (scopeM (topSt 3)) L mainGlobals (cellsFrom (L + 1) (scopeM (topSt 3)).names []) "_find_lcas.<locals>." (some 90) (.ref 89) none builtinsNs
def noSt : Stmt := .Pass ⟨0, 0, 0, 0⟩
def ifBody : Stmt → List Stmt
  | .If _ b _ _ => b
  | _ => []
def whBody : List Stmt := match (bodyM (topSt 3)).getD 11 noSt with
  | .While _ b _ _ => b
  | _ => []
def forBody : Stmt → List Stmt
  | .For _ _ b _ _ => b
  | _ => []

/-- a list of ints -/
def LiI (h : Heap) (l : Addr) (ns : List Int) : Prop := ∃ its, h.PlainList l its ∧ its.size = ns.length ∧ ∀ i, (hi : i < ns.length) → ∃ t, its[i]? = some (.int ns[i] t)
theorem LiI.keeps {h h' : Heap} {l : Addr} {ns : List Int} (x : LiI h l ns) (k : ∀ b o, h.get? b = some o → h'.get? b = some o) : LiI h' l ns := by
  obtain ⟨its, a, b⟩ := x
  exact ⟨its, a.at fun o e => k _ _ e, b⟩

/-- what a callable handed in does: it takes an int of U, changes nothing that was -/
structure CallI (w : World) (hB : Heap) (U : List Int) (f : Addr) (R : Int → Shared → Value → Shared → Prop) : Prop where
  fn : FnAt f hB
  ne : f ≠ 87
  run : ∀ {A : Around} {E : Value → Shared → Prop} {s : Shared} {n : Int} {t : Tok} {Q : Value → Shared → Prop}, A.depth + 5 < recursionLimit → A.units + 30 < cLine → A.handled = none →
    (∀ b o, b ≠ 87 → hB.get? b = some o → s.heap.get? b = some o) → n ∈ U → (∀ s' v, Ext [] s s' → R n s v s' → Q v s') → wpAny (model prg w) A (call (.ref f) [.int n t]) Q E s
def RPar (par : Int → List Int) (n : Int) (s : Shared) (v : Value) (s' : Shared) : Prop := ∃ l, v = .ref l ∧ LiI s'.heap l (par n) ∧ s.heap.get? l = none
def RSt (stamp : Int → Int) (n : Int) (s : Shared) (v : Value) (s' : Shared) : Prop := ∃ t, v = .int (stamp n) t

theorem pgAdd (w : World) : plainGet (KK w) 80 "add" = true := by kernel_rfl
theorem fAdd (w : World) : findIn (KK w) (.ref 80) "add" = some (some (.ref 63)) := by kernel_rfl
theorem isAdd (w : World) : isFn (KK w) (.ref 63) = true := by kernel_rfl
theorem kpAdd (w : World) : keepIn (KK w) (.ref 63) = true := by kernel_rfl
theorem pgGet (w : World) : plainGet (KK w) 80 "get" = true := by kernel_rfl
theorem fGet (w : World) : findIn (KK w) (.ref 80) "get" = some (some (.ref 70)) := by kernel_rfl
theorem isGet (w : World) : isFn (KK w) (.ref 70) = true := by kernel_rfl
theorem kpGet (w : World) : keepIn (KK w) (.ref 70) = true := by kernel_rfl

section
variable {w : World} {mg mb : Str → Option Value} {hB : Heap} {I : Ids} {m : Str → Option Value} {items : Array Value} {q : Qu} {st : St} {nD : Nat} {cits : Array Value} {cs : List PI} {s s' : Shared}

theorem FB.gd (x : FB w mg mb hB I s) (g : Gd w mg mb hB) : Gd w mg mb s.heap := g.kpT fun b o h _ e => x.keep b o h e

theorem FB.aside (x : FB w mg mb hB I s) (g : Gd w mg mb hB) {a : Addr} {oa : Obj} {vs : Array Value} (ha : s.heap.get? a = some oa) (hd : oa.data = .fields vs) (hv : ∀ y t, vs[1]? ≠ some (.str y t)) (hf : hB.get? a = none) (e87 : hB.get? 87 ≠ none)
    (k : ∀ b o, b ≠ a → s.heap.get? b = some o → s'.heap.get? b = some o) (hb : AllBare s.gens → AllBare s'.gens) (ho : s'.os = s.os) : FB w mg mb hB I s' := by
  have go : ∀ {b : Addr} {o : Obj}, s.heap.get? b = some o → kd o.data ≠ 3 → s'.heap.get? b = some o := fun {b o} e h1 => k b o (ne_kd e ha (by rw [hd]; exact h1)) e
  have cr : ∀ {cd : Value} {q : Str}, s.heap.CodeRec cd q → s'.heap.CodeRec cd q := fun ⟨c, o, vs', t, e1, e2, e3, e4⟩ => ⟨c, o, vs', t, e1, k _ _ (fun z => by
    subst z; rw [ha] at e2; cases e2; rw [hd] at e3; cases e3; exact hv _ _ e4) e2, e3, e4⟩
  have n89 : (89 : Addr) ≠ a := fun z => by
    obtain ⟨c, o, _, _, e1, e2, _⟩ := codeRec_of g.X (c89 w)
    cases e1
    rw [z, hf] at e2; cases e2
  have n87 : (87 : Addr) ≠ a := fun z => e87 (z ▸ hf)
  refine ⟨fun b o h87 e => k b o (fun z => by rw [z, hf] at e; cases e) (x.keep b o h87 e), hb x.bare, ho.trans x.os, ?_, go x.w (by simp [kd, instObj]), go x.dw (by simp [kd, dictOf]), ?_, go x.hf (by simp [kd, fnO]), cr x.code⟩
  · obtain ⟨⟨o, vs, file, tf, flags, tg, inF, text, tt, e1, e2, e3, r⟩, ps, e, t, z⟩ := x.tab
    exact ⟨⟨o, vs, file, tf, flags, tg, inF, text, tt, k _ _ n89 e1, e2, e3, r⟩, ps, k _ _ n87 e, t, fun q hq => (z q hq).imp id fun ⟨c', h1, h2⟩ => ⟨c', h1, cr h2⟩⟩
  · obtain ⟨o, e, d⟩ := x.cell
    exact ⟨o, go e (by simp [kd, d]), d⟩

/-- an iterator over a list of ints, both apart from what the turn changes -/
structure Sd (I : Ids) (hB : Heap) (h : Heap) (Ai l : Addr) (i : Nat) (ns : List Int) : Prop where
  it : h.IsListIter Ai l i
  li : LiI h l ns
  fA : hB.get? Ai = none
  a1 : Ai ≠ I.L
  a2 : Ai ≠ I.C
  a3 : Ai ≠ I.P
  l1 : l ≠ I.L
  l2 : l ≠ I.C
  l3 : l ≠ I.P
  al : l ≠ Ai
theorem Sd.move {I : Ids} {hB h h' : Heap} {Ai l : Addr} {i : Nat} {ns : List Int} (x : Sd I hB h Ai l i ns) (k : ∀ b o, b ≠ I.L → b ≠ I.C → b ≠ I.P → h.get? b = some o → h'.get? b = some o) : Sd I hB h' Ai l i ns := by
  obtain ⟨o, e, r⟩ := x.it
  obtain ⟨its, ⟨ol, el⟩, z⟩ := x.li
  exact ⟨⟨o, k _ _ x.a1 x.a2 x.a3 e, r⟩, ⟨its, ⟨ol, k _ _ x.l1 x.l2 x.l3 el⟩, z⟩, x.fA, x.a1, x.a2, x.a3, x.l1, x.l2, x.l3, x.al⟩

theorem FS.aside (x : FS w mg mb hB I m items q st nD cits cs s) (g : Gd w mg mb hB) {a : Addr} {oa : Obj} {vs : Array Value} (ha : s.heap.get? a = some oa) (hc : oa.cls = .type "list_iterator") (hd : oa.data = .fields vs) (hv : ∀ y t, vs[1]? ≠ some (.str y t)) (hf : hB.get? a = none) (e87 : hB.get? 87 ≠ none)
    (k : ∀ b o, b ≠ a → s.heap.get? b = some o → s'.heap.get? b = some o) (hb : AllBare s.gens → AllBare s'.gens) (ho : s'.os = s.os) : FS w mg mb hB I m items q st nD cits cs s' := by
  obtain ⟨oL, es, ep, eL, dL, rL⟩ := id x.ns
  obtain ⟨oP, eP, cP, nP, dP⟩ := id x.p
  obtain ⟨oA, eA, cA, nA, dA⟩ := id x.ca.isList
  obtain ⟨fm, ⟨oc, es', ep', hoc, hcc, hcd, r⟩, z⟩ := id x.c
  have kA : kd oa.data = 3 := by rw [hd]; rfl
  have go : ∀ {b : Addr} {o : Obj}, s.heap.get? b = some o → kd o.data ≠ 3 → s'.heap.get? b = some o := fun {b o} e h1 => k b o (ne_kd e ha (by rw [kA]; exact h1)) e
  have tk : ∀ {t : Addr} {xs : Array Value}, IsTup s.heap t xs → IsTup s'.heap t xs := fun ⟨o, e, c, n, d⟩ => ⟨o, go e (by simp [kd, d]), c, n, d⟩
  refine ⟨x.base.aside g ha hd hv hf e87 k hb ho, ⟨oL, es, ep, go eL (by simp [kd, dL]), dL, rL⟩, x.loc, ⟨oP, go eP (by simp [kd, dP]), cP, nP, dP⟩, ⟨x.qa.1, fun i hi => ?_⟩, x.hp, ⟨fm, ⟨oc, es', ep', go hoc (by simp [kd, hcd]), hcc, hcd, r⟩, z⟩,
    x.le.of_same hoc (go hoc (by simp [kd, hcd])), x.ca.at (fun o e => by rw [eA] at e; cases e; exact go eA (by simp [kd, dA])), ⟨x.cat.1, fun i hi => ?_⟩, x.n1, x.n2, x.n3, x.n4, x.n5, x.f1, x.f2, x.f3, x.f4⟩
  · obtain ⟨a, t, u, h1, h2⟩ := x.qa.2 i hi
    exact ⟨a, t, u, h1, tk h2⟩
  · obtain ⟨a, t, u, h1, h2⟩ := x.cat.2 i hi
    exact ⟨a, t, u, h1, tk h2⟩
end

section
variable {w : World} {A : Around} {E : Value → Shared → Prop} {s : Shared} {mg mb : Str → Option Value} {hB : Heap} {I : Ids}

/-- the last step of `wlst.add((x, y))` -/
theorem add_fin {W DW P : Addr} {tk : Tok} {hsh : Int} {e : PI} {t u : Tok} {items : Array Value} {q : Qu} {Q : Value → Shared → Prop} (gd : Gd w mg mb s.heap)
    (hd : A.depth + 3 < recursionLimit) (hu : A.units + 20 < cLine) (hh0 : A.handled = none)
    (hW : s.heap.get? W = some (instObj 80 DW)) (hDW : s.heap.get? DW = some (dictOf [⟨hsh, .str "pq" tk, .ref P⟩] 1))
    (hP : s.heap.IsList P items) (hq : QuAt s.heap items q) (hh : Heaped q.f q.n) (hz : q.n < sizeLine)
    (h : ∀ s' items' q', Ext [P] s s' → s'.heap.IsList P items' → QuAt s'.heap items' q' → Heaped q'.f q'.n → Pushed q q' (- e.1, e.2) → Q .none s') :
    (KK w).In (s.heap.push { cls := .type "tuple", data := .seq ([Value.int e.1 t, Value.int e.2 u] : List Value).toArray }) ∧
    wpAny (model prg w) A (call (.ref 63) [.ref W, .ref s.heap.objs.size]) Q E { s with heap := s.heap.push { cls := .type "tuple", data := .seq ([Value.int e.1 t, Value.int e.2 u] : List Value).toArray } } := by
  have pu : ∀ b o, s.heap.get? b = some o → (s.heap.push { cls := .type "tuple", data := .seq ([Value.int e.1 t, Value.int e.2 u] : List Value).toArray }).get? b = some o := fun b o e' => Heap.get?_push_of_some _ e'
  refine ⟨(gd.keeps pu).X, ?_⟩
  refine add_wp (s := { s with heap := s.heap.push _ }) (e := e) (gd.keeps pu) hd hu hh0 (pu _ _ hW) (pu _ _ hDW) (stays_list pu hP) (hq.keeps pu) hh hz ⟨_, Heap.get?_push_size _ rfl, rfl, _, rfl⟩ fun s' items' q' ex hP' hq' hh' pd => ?_
  exact h s' items' q' ⟨ex.os, ex.bare, fun b o hb e' => ex.keep b o hb (pu b o e')⟩ hP' hq' hh' pd
end
end Mine
end

section
/-! F5 -/
open PySem PySem.W PySem.Calls PyProof.Rows
set_option maxRecDepth 100000
namespace Mine
def forPar : Stmt := (ifBody (whBody.getD 6 noSt)).getD 0 noSt
section
variable {w : World} {A : Around} {E : Value → Shared → Prop} {s : Shared} {mg mb : Str → Option Value} {hB : Heap} {I : Ids}
variable {U : List Int} {par : Int → List Int} {stamp : Int → Int} {Le : Int → Int → Prop} {c1 c2 g : Int}

theorem dget {e1 e2 : Expr} {pos : Pos} {env : Env} {d : Addr} {Q : Value → Shared → Prop} (hd : (d == sysModules) = false)
    (h : wpAny (model prg w) A (eval e1 env) (fun key s₁ => wpAny (model prg w) A (eval e2 env) (fun dflt s₂ => ∃ k f, (intKind prg w).is k key = true ∧ IMap w s₂.heap d f ∧ Q ((f k).getD dflt) { s₂ with toks := s₂.toks + 1 }) E s₁) E s)
    (he : starEach [e1, e2] env = [(false, eval e1 env), (false, eval e2 env)] := by rfl) :
    wpAny (model prg w) A (callWith pos (.builtin "dict.get") [.ref d] (backTo pos (starEach [e1, e2] env)) []) Q E s := by
  rw [he]
  exact wpAny_dict_get2 (knd := intKind prg w) hd h

theorem FS.gd {m : Str → Option Value} {items : Array Value} {q : Qu} {st : St} {nD : Nat} {cits : Array Value} {cs : List PI} (x : FS w mg mb hB I m items q st nD cits cs s) (gB : Gd w mg mb hB) : Gd w mg mb s.heap := x.base.gd gB
/-- a name set -/
theorem FS.set {m : Str → Option Value} {items : Array Value} {q : Qu} {st : St} {nD : Nat} {cits : Array Value} {cs : List PI} (x : FS w mg mb hB I m items q st nD cits cs s) {n : Str} {v : Value} {Q : Unit → Shared → Prop}
    (h : ∀ s', Nx s s' → KpB I.L s s' → FS w mg mb hB I (upd m n v) items q st nD cits cs s' → Q () s') (hn : (I.vars.map (·.1)).all (fun y => y != n) = true) (hl : (fE I.L).kindOf n = some .local := by rfl) :
    wpAny (model prg w) A (storeName (fE I.L) n v) Q E s :=
  stL x.ns (fun s' nx ns k => h s' nx k (x.local nx ns k (x.loc.upd v hn))) rfl rfl hl

theorem FB.fresh (x : FB w mg mb hB I s) : hB.get? s.heap.objs.size = none := by
  cases q : hB.get? s.heap.objs.size with
  | none => rfl
  | some o =>
    by_cases e : s.heap.objs.size = 87
    · obtain ⟨_, ps, e1, _⟩ := x.tab
      rw [← e] at e1
      exact absurd (Heap.lt_size e1) (Nat.lt_irrefl _)
    · exact absurd (Heap.lt_size (x.keep _ _ e q)) (Nat.lt_irrefl _)

theorem par_for (H : Hist U par stamp Le) (M : Meet U stamp Le c1 c2 g I.mn) (gB : Gd w mg mb hB) (e87 : hB.get? 87 ≠ none) (SP : CallI w hB U I.fst (RSt stamp))
    (hd : A.depth + 8 < recursionLimit) (hu : A.units + 60 < cLine) (hh0 : A.handled = none)
    {m : Str → Option Value} {items : Array Value} {q : Qu} {st : St} {nD N : Nat} {cits : Array Value} {cs : List PI} {c : Int} {fl : Fl} {tf : Tok} {l : Addr} {Q : Flow → Shared → Prop}
    (X : FS w mg mb hB I m items q st nD cits cs s) (Y : JM U par stamp Le c1 c2 g I.mn c fl (par c) q st cs) (hcf : m "cflags" = some (.int fl.n tf)) (hpar : m "parents" = some (.ref l)) (hl : LiI s.heap l (par c))
    (l1 : l ≠ I.L) (l2 : l ≠ I.C) (l3 : l ≠ I.P) (b1 : 2 * left U st + q.n ≤ N) (b2 : nD + left U st ≤ 4 * U.length) (hU : U.length ≤ 1000) (hN : N ≤ 9000)
    (h : ∀ s' m' items' q' st' nD', FS w mg mb hB I m' items' q' st' nD' cits cs s' → J U par stamp Le c1 c2 g I.mn q' st' cs → 2 * left U st' + q'.n ≤ N → nD' + left U st' ≤ 4 * U.length → Q .next s') :
    wpAny (model prg w) A (exec forPar (fE I.L)) Q E s := by
  obtain ⟨its, lIs, lsz, lat⟩ := id hl
  refine wpAny_For (nmL X.ns hpar (wpAny_pyIter_list lIs.isList ?_))
  have pu : ∀ b o, s.heap.get? b = some o → (s.heap.push { cls := .type "list_iterator", data := .fields #[.ref l, .int 0 0] }).get? b = some o := fun b o e => Heap.get?_push_of_some _ e
  have ltL : ∀ {b o}, s.heap.get? b = some o → s.heap.objs.size ≠ b := fun e z => Nat.lt_irrefl _ (z ▸ Heap.lt_size e)
  refine codeAny_forLoop (fun n s' => ∃ i m items q st nD, n + i = (par c).length ∧ FS w mg mb hB I m items q st nD cits cs s' ∧ JM U par stamp Le c1 c2 g I.mn c fl ((par c).drop i) q st cs ∧ m "cflags" = some (.int fl.n tf) ∧
      Sd I hB s'.heap s.heap.objs.size l i (par c) ∧ 2 * left U st + q.n ≤ N ∧ nD + left U st ≤ 4 * U.length) ?_ (par c).length ⟨0, m, items, q, st, nD, rfl, ?_, Y, hcf, ?_, b1, b2⟩
  · clear X Y hcf hpar b1 b2 lIs lsz lat hl its
    rintro n s0 ⟨i, m, items, q, st, nD, hni, X, Y, hcf, D, b1, b2⟩
    obtain ⟨its, lIs, lsz, lat⟩ := D.li
    cases n with
    | zero =>
      refine wpAny_pyNext_list_end hh0 D.it lIs.isList (by rw [Array.getElem?_eq_none]; omega) fun h' ex => ?_
      obtain ⟨oa, ea, ca, da⟩ := D.it
      have X' := X.aside (s' := { s0 with heap := h' }) gB ea ca da (fun y t z => by cases z) D.fA e87 (fun b o hb e => ex b o hb e) id rfl
      have e0 : (par c).drop i = [] := List.drop_eq_nil_of_le (by omega)
      rw [e0] at Y
      exact wpAny_execs_nil (h _ _ _ _ _ _ X' Y.done b1 b2)
    | succ n =>
      have hi : i < (par c).length := by omega
      obtain ⟨tp, hp⟩ := lat i hi
      refine wpAny_pyNext_list_item D.it lIs.isList hp fun h' hit hsb => ?_
      obtain ⟨oa, ea, ca, da⟩ := D.it
      have kA : ∀ b o, b ≠ s.heap.objs.size → s0.heap.get? b = some o → h'.get? b = some o := fun b o hb e => (hsb.2 b hb).trans e
      have X1 := X.aside (s' := { s0 with heap := h' }) gB ea ca da (fun y t z => by cases z) D.fA e87 kA id rfl
      have D1 : Sd I hB h' s.heap.objs.size l (i + 1) (par c) := ⟨hit, ⟨its, lIs.at fun o e => kA _ _ D.al e, lsz, lat⟩, D.fA, D.a1, D.a2, D.a3, D.l1, D.l2, D.l3, D.al⟩
      have e0 : (par c).drop i = (par c)[i] :: (par c).drop (i + 1) := List.drop_eq_getElem_cons hi
      rw [e0] at Y
      have pU : (par c)[i] ∈ U := H.mem c Y.cU _ (List.getElem_mem hi)
      generalize (par c)[i] = p at *
      refine assign_Name (X1.set (fun s2 x2 k2 X2 => ?_) rfl)
      have D2 := D1.move (h' := s2.heap) fun b o b1 _ _ e => k2 b o b1 e
      have next : ∀ (s5 : Shared) (m5 : Str → Option Value) (items5 : Array Value) (q5 : Qu) (st5 : St) (nD5 : Nat), FS w mg mb hB I m5 items5 q5 st5 nD5 cits cs s5 → JM U par stamp Le c1 c2 g I.mn c fl ((par c).drop (i + 1)) q5 st5 cs → m5 "cflags" = some (.int fl.n tf) →
          Sd I hB s5.heap s.heap.objs.size l (i + 1) (par c) → 2 * left U st5 + q5.n ≤ N → nD5 + left U st5 ≤ 4 * U.length →
          ∃ m', m' < n + 1 ∧ ∃ i m items q st nD, m' + i = (par c).length ∧ FS w mg mb hB I m items q st nD cits cs s5 ∧ JM U par stamp Le c1 c2 g I.mn c fl ((par c).drop i) q st cs ∧ m "cflags" = some (.int fl.n tf) ∧
            Sd I hB s5.heap s.heap.objs.size l i (par c) ∧ 2 * left U st + q.n ≤ N ∧ nD + left U st ≤ 4 * U.length :=
        fun s5 m5 items5 q5 st5 nD5 f1 f2 f3 f4 f5 f6 => ⟨n, Nat.lt_succ_self _, i + 1, m5, items5, q5, st5, nD5, by omega, f1, f2, f3, f4, f5, f6⟩
      refine wpAny_execs_cons (wpAny_Assign_Name ?_)
      obtain ⟨fm, im, hfm⟩ := X2.c
      refine MethodCall_ (nmL X2.ns (X2.loc.at rfl) (getMethod_builtin im.typeIs PySem.F.plainAttrs_dict PySem.F.slot_dict_get PySem.F.type_dict_get im.noDict ?_))
      refine dget X2.n5 (nmL X2.ns (upd_self _ _ _) (wpAny_Constant_int ⟨p, fm, is_int w _ _, im, ?_⟩))
      have hp0 : ∃ t0, (fm p).getD (.int 0 s2.toks) = .int ((st p).getD Fl.zero).n t0 := by
        have := hfm p
        cases hst : st p with
        | none => rw [hst] at this; rw [this]; exact ⟨_, rfl⟩
        | some pf => rw [hst] at this; obtain ⟨t0, e⟩ := this; rw [e]; exact ⟨t0, rfl⟩
      obtain ⟨t0, hp0⟩ := hp0
      rw [hp0]
      refine (X2.ext (s' := ⟨_, _, _, s2.toks + 1 + 1, _⟩) ⟨rfl, id, fun _ _ _ e => e⟩).set (fun s3 x3 k3 X3 => ?_) rfl
      have D3 := D2.move (h' := s3.heap) fun b o b1 _ _ e => k3 b o b1 e
      refine wpAny_execs_cons (wpAny_If (wpAny_isTrue_Compare1 (wpAny_BinOp (nmL X3.ns (upd_self _ _ _) (nmL X3.ns hcf (and_int (nmL (s := ⟨s3.heap, _, _, _, _⟩) X3.ns hcf (eq_int (wpAny_truthy_bool ?_)))))))))
      rw [b_le]
      have X3' := X3.ext (s' := ⟨s3.heap, s3.gens, s3.drawn, s3.toks + 1, s3.os⟩) ⟨rfl, id, fun _ _ _ e => e⟩
      cases hle : fl.le ((st p).getD Fl.zero) with
      | true =>
        refine itT rfl (wpAny_execs_cons (wpAny_Continue ?_))
        refine next _ _ _ _ _ _ X3' ?_ hcf D3 b1 b2
        cases hst : st p with
        | none => rw [hst] at hle; rw [Option.getD_none, Y.zero] at hle; cases hle
        | some pf => rw [hst] at hle; exact Y.has hst hle
      | false =>
        refine itF rfl (wpAny_execs_nil ?_)
        refine wpAny_execs_cons (wpAny_Try_except (wpAny_execs_cons (wpAny_Assign_Name ?_)))
        have fnA : ∀ {h : Heap}, (∀ b o, b ≠ 87 → hB.get? b = some o → h.get? b = some o) → FnAt I.fst h := fun k => by
          obtain ⟨oc, od, fd, sl, e⟩ := SP.fn
          exact ⟨oc, od, fd, sl, k _ _ SP.ne e⟩
        refine wpAny_Call_NameR (nmL (s := ⟨s3.heap, _, _, _, _⟩) X3'.ns (X3'.loc.at rfl) (callWith_F (fnA X3'.base.keep) (wpAny_items_cons (nmL (s := ⟨s3.heap, _, _, _, _⟩) X3'.ns rfl (wpAny_items_nil ⟨fnA X3'.base.keep, ?_⟩)))))
        refine SP.run (by omega) (by omega) hh0 X3'.base.keep pU fun s4 v ex4 hv => ?_
        obtain ⟨tv, rfl⟩ := hv
        have X4 := X3'.ext ex4
        refine X4.set (fun s5 x5 k5 X5 => ?_) rfl
        have D5 := D3.move (h' := s5.heap) fun b o b1 _ _ e => k5 b o b1 (ex4.keep b o (by simp) e)
        refine wpAny_execs_nil (wpAny_execs_nil ?_)
        refine wpAny_execs_cons (wpAny_If (wpAny_isTrue_Compare1 (nmL X5.ns (upd_self _ _ _) (nmL X5.ns (X5.loc.at rfl) (PyProof.Rows.lt_int (wpAny_truthy_bool ?_))))))
        by_cases hlt : stamp p < I.mn
        · refine itT (decide_eq_true hlt) (wpAny_execs_cons (wpAny_Continue ?_))
          exact next _ _ _ _ _ _ X5 (Y.low hlt) hcf D5 b1 b2
        · refine itF (decide_eq_false hlt) (wpAny_execs_nil ?_)
          have hge : I.mn ≤ stamp p := Int.not_lt.mp hlt
          obtain ⟨fm5, im5, hfm5⟩ := X5.c
          refine wpAny_execs_cons (wpAny_Assign_Subscript (wpAny_BinOp (nmL X5.ns rfl (nmL X5.ns hcf (PyProof.Rows.or_int (nmL (s := ⟨s5.heap, _, _, _, _⟩) X5.ns (X5.loc.at rfl) (nmL (s := ⟨s5.heap, _, _, _, _⟩) X5.ns rfl ?_)))))))
          have lle := left_relax U st p fl pU hle
          refine setItem_le (s := ⟨s5.heap, _, _, _, _⟩) im5 X5.le (by rw [sizeLine_eq]; omega) fun h6 im6 le6 sb6 => ?_
          rw [b_or] at im6
          have st6 : StM w h6 I.C (st.put p (((st p).getD Fl.zero).or fl)) := by
            refine ⟨_, im6, fun k => ?_⟩
            by_cases hk : k = p
            · subst hk
              rw [St.put_self]
              exact ⟨_, if_pos rfl⟩
            · rw [St.put_ne _ _ hk]
              have := hfm5 k
              rw [if_neg hk]
              exact this
          have X6 := X5.cst (tk' := s5.toks + 1 + 1) sb6 st6 le6
          have gd6 : Gd w mg mb h6 := X6.gd gB
          have D6 := D5.move (h' := h6) fun b o _ b2 _ e => (sb6.2 b b2).trans e
          have Ia : PySem.W.InstAt h6 I.W (instObj 80 I.DW) 80 (some (dictOf [⟨I.hsh, .str "pq" I.tk, .ref I.P⟩] 1)) := ⟨X6.base.w, rfl, rfl, X6.base.dw⟩
          refine wpAny_execs_cons (wpAny_Expr_any (MethodCall_ (nmL (s := ⟨h6, _, _, _, _⟩) X6.ns (X6.loc.at rfl) (methodInst (s := ⟨h6, _, _, _, _⟩) gd6.X Ia (pgAdd w) (fAdd w) (isAdd w) rfl ?_))))
          refine callWith_K (h₀ := h6) gd6.X (kpAdd w) (wpAny_items_cons (wpAny_Tuple (wpAny_items_cons (nmL (s := ⟨h6, _, _, _, _⟩) X6.ns rfl (wpAny_items_cons (nmL (s := ⟨h6, _, _, _, _⟩) X6.ns rfl (wpAny_items_nil ⟨two_fits _ _, wpAny_items_nil ?_⟩)))))))
          refine add_fin (s := ⟨h6, _, _, _, _⟩) (e := (stamp p, p)) gd6 (by omega) (by omega) hh0 X6.base.w X6.base.dw X6.p X6.qa X6.hp (by rw [sizeLine_eq]; omega) fun s7 items7 q7 ex7 p7 qa7 hp7 pd7 => ?_
          refine wpAny_execs_nil ?_
          have X7 := X6.que ex7 p7 qa7 hp7
          have D7 := D6.move (h' := s7.heap) fun b o _ _ b3 e => ex7.keep b o (by simpa using b3) e
          have := pd7.len
          exact next _ _ _ _ _ _ X7 (Y.relax H M hge pd7) hcf D7 (by omega) (by omega)
  · exact X.ext ⟨rfl, id, fun b o _ e => pu b o e⟩
  · refine ⟨⟨_, Heap.get?_push_size _ rfl, rfl, rfl⟩, hl.keeps pu, ?_, ?_, ?_, ?_, l1, l2, l3, ?_⟩
    · exact X.base.fresh
    · obtain ⟨o, _, _, e, _⟩ := X.ns; exact ltL e
    · obtain ⟨fm, ⟨o, _, _, e, _⟩, _⟩ := X.c; exact ltL e
    · obtain ⟨o, e, _⟩ := X.p; exact ltL e
    · obtain ⟨o, e⟩ := lIs; exact (ltL e).symm
end
end Mine
end

section
/-! F6 -/
open PySem PySem.W PySem.Calls PyProof.Rows
set_option maxRecDepth 100000
namespace Mine
section
variable {w : World} {A : Around} {E : Value → Shared → Prop} {s : Shared} {mg mb : Str → Option Value} {hB : Heap} {I : Ids}
variable {U : List Int} {par : Int → List Int} {stamp : Int → Int} {Le : Int → Int → Prop} {c1 c2 g : Int}

theorem FS.nn {m : Str → Option Value} {items : Array Value} {q : Qu} {st : St} {nD : Nat} {cits : Array Value} {cs : List PI} (x : FS w mg mb hB I m items q st nD cits cs s) {l : Addr} (h : s.heap.get? l = none) : l ≠ I.L ∧ l ≠ I.C ∧ l ≠ I.P ∧ l ≠ I.CA := by
  obtain ⟨o1, _, _, e1, _⟩ := x.ns
  obtain ⟨_, ⟨o2, _, _, e2, _⟩, _⟩ := x.c
  obtain ⟨o3, e3, _⟩ := x.p
  obtain ⟨o4, e4, _⟩ := x.ca.isList
  refine ⟨?_, ?_, ?_, ?_⟩ <;> (intro z; subst z; simp_all)

theorem turn2 (H : Hist U par stamp Le) (M : Meet U stamp Le c1 c2 g I.mn) (gB : Gd w mg mb hB) (e87 : hB.get? 87 ≠ none) (SP : CallI w hB U I.fst (RSt stamp)) (PP : CallI w hB U I.fpar (RPar par)) (hpl : ∀ c ∈ U, (par c).length ≤ 1000)
    (hd : A.depth + 8 < recursionLimit) (hu : A.units + 60 < cLine) (hh0 : A.handled = none)
    {m : Str → Option Value} {items : Array Value} {q : Qu} {st : St} {nD N : Nat} {cits : Array Value} {cs : List PI} {c : Int} {fl : Fl} {tf tc : Tok} {Q : Flow → Shared → Prop}
    (X : FS w mg mb hB I m items q st nD cits cs s) (Y : JM U par stamp Le c1 c2 g I.mn c fl (par c) q st cs) (hcf : m "cflags" = some (.int fl.n tf)) (hc : m "cmt" = some (.int c tc))
    (b1 : 2 * left U st + q.n ≤ N) (b2 : nD + left U st ≤ 4 * U.length) (hU : U.length ≤ 1000) (hN : N ≤ 9000)
    (h : ∀ s' m' items' q' st' nD', FS w mg mb hB I m' items' q' st' nD' cits cs s' → J U par stamp Le c1 c2 g I.mn q' st' cs → 2 * left U st' + q'.n ≤ N → nD' + left U st' ≤ 4 * U.length → Q .next s') :
    wpAny (model prg w) A (execs (whBody.drop 5) (fE I.L)) Q E s := by
  have fnA : ∀ {h : Heap}, (∀ b o, b ≠ 87 → hB.get? b = some o → h.get? b = some o) → FnAt I.fpar h := fun k => by
    obtain ⟨oc, od, fd, sl, e⟩ := PP.fn
    exact ⟨oc, od, fd, sl, k _ _ PP.ne e⟩
  refine wpAny_execs_cons (wpAny_Try_except (wpAny_execs_cons (wpAny_Assign_Name ?_)))
  refine wpAny_Call_NameR (nmL X.ns (X.loc.at rfl) (callWith_F (fnA X.base.keep) (wpAny_items_cons (nmL X.ns hc (wpAny_items_nil ⟨fnA X.base.keep, ?_⟩)))))
  refine PP.run (by omega) (by omega) hh0 X.base.keep Y.cU fun s4 v ex4 hv => ?_
  obtain ⟨l, rfl, hl, hf⟩ := hv
  have X4 := X.ext ex4
  have hlL := X.nn hf
  refine X4.set (fun s5 x5 k5 X5 => ?_) rfl
  have hl5 : LiI s5.heap l (par c) := by
    obtain ⟨its, ⟨o, e⟩, z⟩ := hl
    exact ⟨its, ⟨o, k5 _ _ hlL.1 e⟩, z⟩
  refine wpAny_execs_nil (wpAny_execs_nil ?_)
  obtain ⟨its, lIs, lsz, lat⟩ := id hl5
  have := hpl c Y.cU
  refine wpAny_execs_cons (wpAny_If (wpAny_isTrue_value (nmL X5.ns (upd_self _ _ _) (wpAny_truthy_list lIs.isList (by omega) ?_))))
  have X5' := X5.ext (s' := ⟨s5.heap, s5.gens, s5.drawn, s5.toks + 1 + 1, s5.os⟩) ⟨rfl, id, fun _ _ _ e => e⟩
  by_cases h0 : par c = []
  · refine itF ?_ (wpAny_execs_nil (wpAny_execs_nil ?_))
    · rw [h0] at lsz
      rw [Array.isEmpty_iff_size_eq_zero.mpr lsz]; rfl
    · rw [h0] at Y
      exact h _ _ _ _ _ _ X5' Y.done b1 b2
  · refine itT ?_ (wpAny_execs_cons ?_)
    · have : its.size ≠ 0 := by rw [lsz]; exact fun z => h0 (List.length_eq_zero_iff.mp z)
      have : its.isEmpty = false := by
        cases q : its.isEmpty with
        | false => rfl
        | true => exact absurd (Array.isEmpty_iff_size_eq_zero.mp q) this
      rw [this]; rfl
    · refine par_for H M gB e87 SP hd hu hh0 (s := ⟨s5.heap, s5.gens, s5.drawn, s5.toks + 1 + 1, s5.os⟩) X5' Y hcf (upd_self _ _ _) hl5 hlL.1 hlL.2.1 hlL.2.2.1 b1 b2 hU hN fun s' m' items' q' st' nD' f1 f2 f3 f4 => ?_
      exact wpAny_execs_nil (wpAny_execs_nil (h s' m' items' q' st' nD' f1 f2 f3 f4))

theorem turn (H : Hist U par stamp Le) (M : Meet U stamp Le c1 c2 g I.mn) (gB : Gd w mg mb hB) (e87 : hB.get? 87 ≠ none) (SP : CallI w hB U I.fst (RSt stamp)) (PP : CallI w hB U I.fpar (RPar par)) (hpl : ∀ c ∈ U, (par c).length ≤ 1000)
    (hd : A.depth + 8 < recursionLimit) (hu : A.units + 60 < cLine) (hh0 : A.handled = none)
    {m : Str → Option Value} {items : Array Value} {q : Qu} {st : St} {nD N : Nat} {cits : Array Value} {cs : List PI} {Q : Flow → Shared → Prop}
    (hcD : I.cD = I.L + 1) (X : FS w mg mb hB I m items q st nD cits cs s) (Y : J U par stamp Le c1 c2 g I.mn q st cs) (h0 : 0 < q.n)
    (b1 : 2 * left U st + q.n ≤ N + 1) (b2 : nD + left U st ≤ 4 * U.length) (hU : U.length ≤ 1000) (hN : N ≤ 9000)
    (h : ∀ s' m' items' q' st' nD' cits' cs', FS w mg mb hB I m' items' q' st' nD' cits' cs' s' → J U par stamp Le c1 c2 g I.mn q' st' cs' → 2 * left U st' + q'.n ≤ N → nD' + left U st' ≤ 4 * U.length → Q .next s') :
    wpAny (model prg w) A (execs whBody (fE I.L)) Q E s := by
  have Ia : PySem.W.InstAt s.heap I.W (instObj 80 I.DW) 80 (some (dictOf [⟨I.hsh, .str "pq" I.tk, .ref I.P⟩] 1)) := ⟨X.base.w, rfl, rfl, X.base.dw⟩
  refine wpAny_execs_cons (wpAny_Assign_Name ?_)
  refine MethodCall_ (nmL X.ns (X.loc.at rfl) (methodInst (X.gd gB).X Ia (pgGet w) (fGet w) (isGet w) rfl ?_))
  refine callWith_K0 (X.gd gB).X (kpGet w) ?_
  refine get_wp (X.gd gB) (by omega) (by omega) hh0 X.base.w X.base.dw X.p X.qa X.hp (by rw [sizeLine_eq]; omega) h0 fun s1 items1 q1 it t u ex1 p1 qa1 hp1 po ht => ?_
  have X1 := X.que ex1 p1 qa1 hp1
  refine X1.set (fun s2 x2 k2 X2 => ?_) rfl
  obtain ⟨f, hst⟩ := (Y.base.qU _ po.has).2
  have JP := Y.pop H M po hst
  have hcU := JP.cU
  have ecs : markCs cs (q.f 0) f = if Marks f = true then cs ++ [(-(q.f 0).1, (q.f 0).2)] else cs := rfl
  rw [ecs] at JP
  clear ecs
  generalize hc0 : (q.f 0).2 = c at *
  generalize hd0 : - (q.f 0).1 = dt at *
  obtain ⟨oL, _, _, eL, dL, _⟩ := id X1.ns
  have ht2 : IsTup s2.heap it #[.int dt t, .int c u] := tup_kd eL (.inl (by rw [dL]; rfl)) k2 ht
  refine wpAny_execs_cons (wpAny_If (wpAny_isTrue_Compare1 (nmL X2.ns (upd_self _ _ _) (wpAny_Constant_none (is_none (wpAny_truthy_bool (itF rfl (wpAny_execs_nil ?_))))))))
  refine wpAny_execs_cons (Assign_Tuple (nmL X2.ns (upd_self _ _ _) ?_))
  refine unpack2 (t := it) hh0 ht2 X2.ns fun s3 x3 ns3 k3 => ?_
  have X3 := X2.local x3 ns3 k3 ((X2.loc.upd _ rfl).upd _ rfl)
  refine wpAny_execs_cons (wpAny_Assign_Name ?_)
  obtain ⟨fm, im, hfm⟩ := id X3.c
  have hck := hfm c
  rw [hst] at hck
  obtain ⟨t9, hck⟩ := hck
  have cell : ∀ s6 : Shared, s6.heap = s3.heap → s6.heap.IsCell (I.L + 1) (some (.int 4 I.t4)) := fun s6 e => by rw [e, ← hcD]; exact X3.base.cell
  refine wpAny_BinOp (Subscript_ (nmL X3.ns (X3.loc.at rfl) (nmL X3.ns rfl (subscriptTail_builtin im.typeIs slot_dict_getitem.lookup (wpAny_getItem_intMap im.intMap hck ?_)))))
  refine wpAny_BinOp (wpAny_BinOp (nmL (s := ⟨s3.heap, _, _, _, _⟩) X3.ns (X3.loc.at rfl) (nmL (s := ⟨s3.heap, _, _, _, _⟩) X3.ns (X3.loc.at rfl) (PyProof.Rows.or_int (nmC (c := I.L + 1) (cell _ rfl) (PyProof.Rows.or_int (and_int ?_)))))))
  rw [b_low]
  refine (X3.ext (s' := ⟨s3.heap, _, _, s3.toks + 1 + 1 + 1 + 1, _⟩) ⟨rfl, id, fun _ _ _ e => e⟩).set (fun s4 x4 k4 X4 => ?_) rfl
  refine wpAny_execs_cons (wpAny_If (wpAny_isTrue_Compare1 (nmL X4.ns (upd_self _ _ _) (wpAny_BinOp (nmL X4.ns (X4.loc.at rfl) (nmL X4.ns (X4.loc.at rfl) (PyProof.Rows.or_int (eq_int (wpAny_truthy_bool ?_)))))))))
  rw [b_both]
  cases hb : (f.a && f.b && !f.d) with
  | false =>
    refine itF rfl (wpAny_execs_nil ?_)
    have mk : Marks f = false := by rw [Marks, hb]; rfl
    have e1 : markSt st c f = st := by rw [markSt, mk]; rfl
    rw [mk, e1] at JP
    have := po.len
    refine turn2 (N := N) H M gB e87 SP PP hpl hd hu hh0 (s := ⟨s4.heap, _, _, _, _⟩) (X4.ext ⟨rfl, id, fun _ _ _ e => e⟩) JP (by rw [← b_noeff f hb]; exact upd_self _ _ _) rfl (by omega) b2 hU hN fun s' m' items' q' st' nD' g1 g2 g3 g4 => ?_
    exact h _ _ _ _ _ _ _ _ g1 g2 g3 g4
  | true =>
    refine itT rfl ?_
    obtain ⟨fm4, im4, hfm4⟩ := id X4.c
    have hck4 := hfm4 c
    rw [hst] at hck4
    obtain ⟨t10, hck4⟩ := hck4
    have fin : ∀ (s5 : Shared) (st5 : St) (nD5 : Nat) (cits5 : Array Value) (cs5 : List PI), FS w mg mb hB I (upd (upd (upd (upd m "result" (.ref it)) "dt" (.int dt t)) "cmt" (.int c u)) "cflags" (.int f.low.n (s3.toks + 1 + 1 + 1))) items1 q1 st5 nD5 cits5 cs5 s5 →
        JM U par stamp Le c1 c2 g I.mn c f.eff (par c) q1 st5 cs5 → 2 * left U st5 + q1.n ≤ N → nD5 + left U st5 ≤ 4 * U.length → ∀ {E'}, wpAny (model prg w) A (execs [(ifBody (whBody.getD 4 noSt)).getD 1 noSt] (fE I.L)) (fun fl s' => match fl with | .next => wpAny (model prg w) A (execs (whBody.drop 5) (fE I.L)) Q E s' | f => Q f s') E' s5 := by
      intro s5 st5 nD5 cits5 cs5 X5 J5 c1' c2' E'
      refine wpAny_execs_cons (wpAny_Assign_Name (wpAny_BinOp (nmL X5.ns (upd_self _ _ _) (nmC (c := I.L + 1) (by rw [← hcD]; exact X5.base.cell) (PyProof.Rows.or_int ?_)))))
      rw [b_eff f hb]
      refine (X5.ext (s' := ⟨s5.heap, _, _, s5.toks + 1, _⟩) ⟨rfl, id, fun _ _ _ e => e⟩).set (fun s6 x6 k6 X6 => ?_) rfl
      refine wpAny_execs_nil ?_
      exact turn2 (N := N) H M gB e87 SP PP hpl hd hu hh0 X6 J5 (upd_self _ _ _) rfl c1' c2' hU hN fun s' m' items' q' st' nD' g1 g2 g3 g4 => h _ _ _ _ _ _ _ _ g1 g2 g3 g4
    have := po.len
    refine wpAny_execs_cons (wpAny_If (wpAny_isTrue_Not (wpAny_isTrue_Compare1 (wpAny_BinOp (Subscript_ (nmL X4.ns (X4.loc.at rfl) (nmL X4.ns rfl (subscriptTail_builtin im4.typeIs slot_dict_getitem.lookup (wpAny_getItem_intMap im4.intMap hck4 ?_)))))))))
    refine nmL (s := ⟨s4.heap, _, _, _, _⟩) X4.ns (X4.loc.at rfl) (and_int (nmL (s := ⟨s4.heap, _, _, _, _⟩) X4.ns (X4.loc.at rfl) (eq_int (wpAny_truthy_bool ?_))))
    rw [b_l]
    cases hl : f.l with
    | true =>
      have mk : Marks f = false := by rw [Marks, hl]; simp
      have e1 : markSt st c f = st := by rw [markSt, mk]; rfl
      rw [mk, e1] at JP
      refine itF rfl (wpAny_execs_nil ?_)
      refine fin _ _ _ _ _ (X4.ext ?_) JP (by omega) b2
      exact ⟨rfl, id, fun _ _ _ e => e⟩
    | false =>
      have mk : Marks f = true := by rw [Marks, hb, hl]; rfl
      have e1 : markSt st c f = st.put c { f with l := true } := by rw [markSt, mk]; rfl
      rw [mk, e1] at JP
      have lle := left_mark U st c f hst hcU mk
      refine itT rfl (wpAny_execs_cons (wpAny_Assign_Subscript (wpAny_BinOp (Subscript_ (nmL (s := ⟨s4.heap, _, _, _, _⟩) X4.ns (X4.loc.at rfl) (nmL (s := ⟨s4.heap, _, _, _, _⟩) X4.ns rfl (subscriptTail_builtin (s := ⟨s4.heap, _, _, _, _⟩) im4.typeIs slot_dict_getitem.lookup (wpAny_getItem_intMap (s := ⟨s4.heap, _, _, _, _⟩) im4.intMap hck4 ?_))))))))
      refine nmL (s := ⟨s4.heap, _, _, _, _⟩) X4.ns (X4.loc.at rfl) (PyProof.Rows.or_int (nmL (s := ⟨s4.heap, _, _, _, _⟩) X4.ns (X4.loc.at rfl) (nmL (s := ⟨s4.heap, _, _, _, _⟩) X4.ns rfl ?_)))
      refine setItem_le (s := ⟨s4.heap, _, _, _, _⟩) im4 X4.le (by rw [sizeLine_eq]; omega) fun h5 im5 le5 sb5 => ?_
      rw [b_setl] at im5
      have st5 : StM w h5 I.C (st.put c { f with l := true }) := by
        refine ⟨_, im5, fun k => ?_⟩
        by_cases hk : k = c
        · subst hk
          rw [St.put_self]
          exact ⟨_, if_pos rfl⟩
        · rw [St.put_ne _ _ hk]
          have := hfm4 k
          rw [if_neg hk]
          exact this
      have X5 := X4.cst (tk' := 0) sb5 st5 le5
      have cl : cits.size ≤ 1 := by
        rw [X.cat.1]
        rcases Y.base.cs with ⟨_, _, _, e⟩ | ⟨_, e⟩ <;> rw [e] <;> simp
      refine wpAny_execs_cons (wpAny_Expr_any (MethodCall_ (nmL (s := ⟨h5, _, _, _, _⟩) X5.ns (X5.loc.at rfl) ?_)))
      obtain ⟨nA, eA⟩ := X5.ca
      refine getMethod_list_append (s := ⟨h5, _, _, _, _⟩) eA rfl rfl ?_
      refine callWith_method1 (wpAny_items_cons (wpAny_Tuple (wpAny_items_cons (nmL (s := ⟨h5, _, _, _, _⟩) X5.ns rfl (wpAny_items_cons (nmL (s := ⟨h5, _, _, _, _⟩) X5.ns rfl (wpAny_items_nil ⟨two_fits _ _, wpAny_items_nil ?_⟩)))))))
      have pu : ∀ b o, h5.get? b = some o → (h5.push { cls := .type "tuple", data := .seq ([Value.int dt t, Value.int c u] : List Value).toArray }).get? b = some o := fun b o e => Heap.get?_push_of_some _ e
      have X6 := X5.ext (s' := ⟨h5.push { cls := .type "tuple", data := .seq ([Value.int dt t, Value.int c u] : List Value).toArray }, s4.gens, s4.drawn, 0, s4.os⟩) ⟨rfl, id, fun b o _ e => pu b o e⟩
      refine wpAny_list_append_plain X6.ca (fun h7 ca7 sb7 => ?_) (by rw [sizeLine_eq]; omega)
      refine wpAny_execs_nil ?_
      have n9 : h5.objs.size ≠ I.CA := fun z => by
        rw [← z] at eA
        exact absurd (Heap.lt_size eA) (Nat.lt_irrefl _)
      have t7 : IsTup h7 h5.objs.size #[.int dt t, .int c u] := ⟨_, (sb7.2 _ n9).trans (Heap.get?_push_size _ rfl), rfl, _, rfl⟩
      have k7 : ∀ b o, b ≠ I.CA → (h5.push { cls := .type "tuple", data := .seq ([Value.int dt t, Value.int c u] : List Value).toArray }).get? b = some o → h7.get? b = some o := fun b o hb e => (sb7.2 b hb).trans e
      have tups : TupsAt h7 (cits.push (.ref h5.objs.size)) (cs ++ [(dt, c)]) := by
        refine ⟨by simp [X.cat.1], fun i hi => ?_⟩
        simp only [List.length_append, List.length_cons, List.length_nil] at hi
        by_cases hlt : i < cs.length
        · obtain ⟨a, t', u', e1, e2⟩ := X6.cat.2 i hlt
          refine ⟨a, t', u', ?_, ?_⟩
          · rw [Array.getElem?_push_lt (by rw [X.cat.1]; exact hlt), ← e1, Array.getElem?_eq_getElem]
          · rw [List.getElem_append_left hlt]
            exact tup_kd (pu _ _ eA) (.inr rfl) k7 e2
        · have : i = cs.length := by omega
          subst this
          refine ⟨h5.objs.size, t, u, by have := X.cat.1; rw [← this]; exact Array.getElem?_push_size, ?_⟩
          simpa using t7
      refine fin _ _ _ _ _ (FS.can X6 ?_ ?_ ?_ ?_ tups) JP (by omega) (by omega)
      · exact k7
      · exact id
      · rfl
      · exact ca7
end
end Mine
end

section
/-! F7 -/
open PySem PySem.W PySem.Calls PyProof.Rows
set_option maxRecDepth 100000
namespace Mine
def whSt : Stmt := (bodyM (topSt 3)).getD 11 noSt
section
variable {w : World} {A : Around} {E : Value → Shared → Prop} {s : Shared} {mg mb : Str → Option Value} {hB : Heap} {I : Ids}
variable {U : List Int} {par : Int → List Int} {stamp : Int → Int} {Le : Int → Int → Prop} {c1 c2 g : Int}

theorem while_wp (H : Hist U par stamp Le) (M : Meet U stamp Le c1 c2 g I.mn) (gB : Gd w mg mb hB) (e87 : hB.get? 87 ≠ none) (SP : CallI w hB U I.fst (RSt stamp)) (PP : CallI w hB U I.fpar (RPar par)) (hpl : ∀ c ∈ U, (par c).length ≤ 1000)
    (hd : A.depth + 8 < recursionLimit) (hu : A.units + 60 < cLine) (hh0 : A.handled = none)
    {m : Str → Option Value} {items : Array Value} {q : Qu} {st : St} {nD : Nat} {cits : Array Value} {cs : List PI} {Q : Flow → Shared → Prop}
    (hcD : I.cD = I.L + 1) (X : FS w mg mb hB I m items q st nD cits cs s) (Y : J U par stamp Le c1 c2 g I.mn q st cs)
    (b1 : 2 * left U st + q.n ≤ 9000) (b2 : nD + left U st ≤ 4 * U.length) (hU : U.length ≤ 1000)
    (h : ∀ s' m' items' q' st' nD' cits' cs', FS w mg mb hB I m' items' q' st' nD' cits' cs' s' → ((I.mn ≤ stamp g ∧ cs' = [(stamp g, g)] ∧ ∃ f, st' g = some f ∧ f.d = false) ∨ (¬ I.mn ≤ stamp g ∧ cs' = [])) → Q .next s') :
    wpAny (model prg w) A (exec whSt (fE I.L)) Q E s := by
  refine wpAny_While (codeAny_whileLoop (fun n s' => n ≤ 9000 ∧ ∃ m items q st nD cits cs, FS w mg mb hB I m items q st nD cits cs s' ∧ J U par stamp Le c1 c2 g I.mn q st cs ∧ 2 * left U st + q.n = n ∧ nD + left U st ≤ 4 * U.length) ?_
    (2 * left U st + q.n) ⟨b1, m, items, q, st, nD, cits, cs, X, Y, rfl, b2⟩)
  clear X Y b1 b2
  rintro n s1 ⟨hn, m, items, q, st, nD, cits, cs, X, Y, b1, b2⟩
  have fnA : FnAt I.HF s1.heap := ⟨_, _, _, _, X.base.hf⟩
  refine wpAny_isTrue_value (wpAny_Call_NameR (nmL X.ns (X.loc.at rfl) (callWith_F fnA (wpAny_items_cons (nmL X.ns (X.loc.at rfl) (wpAny_items_cons (nmL X.ns (X.loc.at rfl) (wpAny_items_nil ⟨fnA, ?_⟩))))))))
  refine hc_wp (X.gd gB) (by omega) (by omega) hh0 X.base.bare X.base.hf X.base.code X.base.cell X.base.w X.base.dw X.p X.qa X.c.at fun s2 b ex ht hf => wpAny_truthy_bool ?_
  have X2 := X.ext ex
  cases b with
  | false =>
    refine itF rfl (wpAny_execs_nil ?_)
    refine h _ _ _ _ _ _ _ _ X2 (Y.fin H M fun e he f hst => ?_)
    obtain ⟨i, hi, rfl⟩ := he
    have := hf rfl i hi
    simp only [candAt, hst] at this
    simpa using this
  | true =>
    obtain ⟨i, hi, _⟩ := ht rfl
    refine itT rfl ?_
    refine turn (N := n - 1) H M gB e87 SP PP hpl hd hu hh0 hcD X2 Y (by omega) (by omega) b2 hU (by omega) fun s' m' items' q' st' nD' cits' cs' X' Y' c1' c2' => ?_
    exact ⟨2 * left U st' + q'.n, by omega, by omega, _, _, _, _, _, _, _, X', Y', rfl, c2'⟩
end
end Mine
end

section
/-! S1 -/
open PySem PySem.W PySem.Calls PyProof.Rows
set_option maxRecDepth 100000
namespace Mine
section
variable {prog : Program} {w : World} {A : Around} {E : Value → Shared → Prop} {s : Shared} {mg mb : Str → Option Value}

/-- `y = [x2 for x, x2 in iter]` over a list of pairs of ints -/
theorem lc_pair {x x₂ y : Str} {px px₂ py pe tp pos spos : Pos} {tk : Nat} {iter : Expr} {scope : Scope} {env : Env} {L : Addr} {cl : List (Str × Addr)} {Q : Flow → Shared → Prop}
    (h : wpAny (model prog w) A (eval iter env) (fun xv s₁ => ∃ R its cs m, xv = .ref R ∧ s₁.heap.IsList R its ∧ TupsAt s₁.heap its cs ∧ cs.length ≤ 1000 ∧ A.handled = none ∧ s₁.heap.Ns L m ∧
      ∀ s' D, Nx s₁ s' → KpB L s₁ s' → s'.heap.Ns L (upd m y (.ref D)) → LiI s'.heap D (cs.map (·.2)) → s₁.heap.get? D = none → Q .next s') E s)
    (hsw : swapsWith (.ListComp (.Name x₂ pe) [⟨.Tuple [.Name x px, .Name x₂ px₂] tk tp, iter, [], 0⟩] scope pos) (some (.Name y py)) spos.line env = pure true := by rfl)
    (hclos : closureFor scope env = pure cl := by rfl) (hcell : ∀ z ∈ scope.names, z.2 ≠ .cell := by decide) (hkind : scope.kind = .function := by rfl)
    (hnames : ∀ z ∈ scope.names, z.2 = .local → scope.names.lookup z.1 = some .local := by decide) (hx : scope.names.lookup x = some .local := by rfl) (hx₂ : scope.names.lookup x₂ = some .local := by rfl) (hxx : x ≠ x₂ := by decide)
    (hdb : (x₂ == ("__debug__" : Str)) = false := by decide) (hL : env.locals = L := by rfl) (hke : env.scope.kind = .function := by rfl) (hy : env.kindOf y = some .local := by rfl)
    (hs : ∀ x, foldedSetIterable iter env x = pure x := by intro _; rfl) :
    wpAny (model prog w) A (exec (.Assign [.Name y py] (.ListComp (.Name x₂ pe) [⟨.Tuple [.Name x px, .Name x₂ px₂] tk tp, iter, [], 0⟩] scope pos) spos) env) Q E s := by
  rw [exec_Assign_Name_used _ _ _ _ hsw]
  refine wpAny_bind (wpAny_standAt (wpAny_bind ?_))
  show wpAny _ A (do let _ ← comprehension (.ListComp (.Name x₂ pe) [⟨.Tuple [.Name x px, .Name x₂ px₂] tk tp, iter, [], 0⟩] scope pos) scope env _ (newList []) false (eval iter env) (some (assign (.Name y py) env))) _ _ s
  refine wpAny_bind (wpAny_mono (wpAny_comprehension_free (use := some (assign (.Name y py) env)) (Q := fun _ s' => Q .next s') rfl hs hclos hkind hnames
    (wpAny_mono h (fun xv s₁ h₁ => ?_) fun _ _ e => e)) (fun _ s' hq => wpAny_pure (wpAny_pure hq)) fun _ _ e => e)
  obtain ⟨R, its, cs, m, rfl, hR, hT, hcs, hh, ns, fin⟩ := h₁
  refine wpAny_pyIter_list hR (wpAny_newObj_type (hd := by size_fits) (wpAny_newFunctionEnv hcell (by intro y hy; simp at hy) (fun h₁ hns₁ hsb₁ => ?_) hkind))
  dsimp only at hns₁ hsb₁ ⊢
  have e1 : (s₁.heap.push { cls := .type "list_iterator", data := .fields #[.ref R, .int 0 0] }).objs.size = s₁.heap.objs.size + 1 := by rw [Heap.size_push]
  generalize hH1 : s₁.heap.push { cls := .type "list_iterator", data := .fields #[.ref R, .int 0 0] } = H1 at *
  have e2 : (H1.push { cls := .type "list", dict := none, data := .seq ([] : List Value).toArray }).objs.size = s₁.heap.objs.size + 2 := by rw [Heap.size_push, e1]
  generalize hH2 : H1.push { cls := .type "list", dict := none, data := .seq ([] : List Value).toArray } = H2 at *
  have ltI : ∀ {b o}, s₁.heap.get? b = some o → b < s₁.heap.objs.size := fun e => Heap.lt_size e
  have nI : ∀ {b o}, s₁.heap.get? b = some o → b ≠ s₁.heap.objs.size := fun e => Nat.ne_of_lt (ltI e)
  have nD : ∀ {b o}, s₁.heap.get? b = some o → b ≠ H1.objs.size := fun e => Nat.ne_of_lt (Nat.lt_of_lt_of_le (ltI e) (by omega))
  have nC : ∀ {b o}, s₁.heap.get? b = some o → b ≠ H2.objs.size := fun e => Nat.ne_of_lt (Nat.lt_of_lt_of_le (ltI e) (by omega))
  have ID : s₁.heap.objs.size ≠ H1.objs.size := Nat.ne_of_lt (by omega)
  have IC : s₁.heap.objs.size ≠ H2.objs.size := Nat.ne_of_lt (by omega)
  have DC : H1.objs.size ≠ H2.objs.size := Nat.ne_of_lt (by omega)
  have fr : ∀ a, s₁.heap.objs.size ≤ a → s₁.heap.get? a = none := fun a ha => by
    cases e : s₁.heap.get? a with
    | none => rfl
    | some o' => exact absurd (Heap.lt_size e) (Nat.not_lt.mpr ha)
  have old : ∀ b o, s₁.heap.get? b = some o → h₁.get? b = some o := fun b o e =>
    hsb₁.extBut b o (nC e) (Heap.get?_push_of_some _ (hH2 ▸ Heap.get?_push_of_some _ (hH1 ▸ Heap.get?_push_of_some _ e)))
  have hit : h₁.IsListIter s₁.heap.objs.size R 0 := ⟨_, hsb₁.extBut _ _ IC (Heap.get?_push_of_some _ (hH2 ▸ Heap.get?_push_of_some _ (hH1 ▸ Heap.get?_push_size _ rfl))), rfl, rfl⟩
  have hacc : h₁.PlainList H1.objs.size #[] := ⟨_, hsb₁.extBut _ _ DC (Heap.get?_push_of_some _ (hH2 ▸ Heap.get?_push_size _ rfl))⟩
  have hRI : R ≠ s₁.heap.objs.size := by obtain ⟨o, e, _⟩ := hR; exact nI e
  have loop : ∀ s₃ : Shared, s₃ = { s₁ with heap := h₁, toks := s₁.toks + ([] : List (Str × Value)).length } →
      codeAny (model prog w) A (.compLoop (.ListComp (.Name x₂ pe) [⟨.Tuple [.Name x px, .Name x₂ px₂] tk tp, iter, [], 0⟩] scope pos) 0 (.ref s₁.heap.objs.size) (.ref H1.objs.size) (compEnvC scope cl H2.objs.size env))
        (compPost (model prog w) A E (some (assign (.Name y py) env)) (fun _ s' => Q .next s') (.ref H1.objs.size) H2.objs.size) s₃ := by
    rintro s₃ rfl
    refine LCp.codeAny_compLoop_pair (fun n s' => ∃ i m' its', n + i = cs.length ∧ Nx s₁ s' ∧ Kp s₁ s' ∧ s'.heap.IsListIter s₁.heap.objs.size R i ∧ s'.heap.PlainList H1.objs.size its' ∧ s'.heap.Ns H2.objs.size m' ∧
      its'.size = i ∧ ∀ j, (hj : j < cs.length) → j < i → ∃ t, its'[j]? = some (.int (cs[j]).2 t)) ?_ cs.length ⟨0, _, #[], rfl, ⟨rfl, rfl⟩, old, hit, hacc, hns₁, rfl, fun j _ hj => absurd hj (Nat.not_lt_zero _)⟩
    rintro n s' ⟨i, m', its', hni, nx, kp, it', acc', ns', hsz', hvs⟩
    have hR' : s'.heap.IsList R its := stays_list kp hR
    cases n with
    | zero =>
      refine wpAny_pyNext_list_end hh it' hR' (by rw [Array.getElem?_eq_none]; rw [hT.1]; omega) fun h' ex => ?_
      have kp2 : ∀ b o, s₁.heap.get? b = some o → h'.get? b = some o := fun b o e => ex b o (nI e) (kp b o e)
      show wpAny _ A (assign (.Name y py) env (.ref H1.objs.size)) _ _ _
      refine wpAny_assign_Name (stL (ns.keeps kp2) (fun s4 x4 ns4 k4 => ?_) hL hke hy)
      have hLC : L ≠ H2.objs.size := by obtain ⟨o, _, _, e, _⟩ := ns; exact nC e
      have hLD : L ≠ H1.objs.size := by obtain ⟨o, _, _, e, _⟩ := ns; exact nD e
      obtain ⟨nA, eA⟩ := acc'
      have accL : s4.heap.get? H1.objs.size = some _ := k4 _ _ hLD.symm (ex _ _ ID.symm eA)
      obtain ⟨oC, es, ep, eC, rC⟩ := ns'
      refine ⟨m', ⟨oC, es, ep, k4 _ _ hLC.symm (ex _ _ IC.symm eC), rC⟩, fun h5 sb5 => ?_⟩
      refine fin _ _ ⟨x4.gens.trans nx.gens, x4.os.trans nx.os⟩ (fun b o hb e => (sb5.2 b (nC e)).trans (k4 b o hb (kp2 b o e))) (ns4.sameBut sb5 hLC) ⟨its', ⟨_, (sb5.2 _ DC).trans accL⟩, by rw [hsz', List.length_map]; omega, fun j hj => ?_⟩ (fr _ (by omega))
      rw [List.length_map] at hj
      rw [List.getElem_map]
      exact hvs j hj (by omega)
    | succ n =>
      have hi : i < cs.length := by omega
      obtain ⟨T, t, u, hTi, hTt⟩ := hT.2 i hi
      refine wpAny_pyNext_list_item it' hR' hTi fun h' hit2 hsb => ?_
      have kp2 : ∀ b o, s₁.heap.get? b = some o → h'.get? b = some o := fun b o e => (hsb.2 b (nI e)).trans (kp b o e)
      refine wpAny_letOwnedTupleGo_listiter (s := { s' with heap := h' }) hit2 ?_
      refine unpack2 (s := { s' with heap := h' }) (t := T) (L := H2.objs.size) hh (hTt.keeps kp2) (ns'.sameBut hsb IC.symm) (fun s4 x4 ns4 k4 => ?_) rfl (by simp [compEnvC, relabel, hkind]) (lookup_relabel_local hx) (lookup_relabel_local hx₂)
      refine nmL ns4 (upd_self _ _ _) ?_ rfl (by simp [compEnvC, relabel, hkind]) (lookup_relabel_local hx₂) hdb
      obtain ⟨nA, eA⟩ := acc'
      have accL : s4.heap.PlainList H1.objs.size its' := ⟨nA, k4 _ _ DC ((hsb.2 _ ID.symm).trans eA)⟩
      refine wpAny_list_append_plain accL (fun h5 acc5 sb5 => ?_) (by rw [sizeLine_eq]; omega)
      obtain ⟨oI, eI, rI⟩ := hit2
      refine ⟨n, Nat.lt_succ_self _, i + 1, _, _, by omega, ⟨x4.gens.trans nx.gens, x4.os.trans nx.os⟩, fun b o e => (sb5.2 b (nD e)).trans (k4 b o (nC e) (kp2 b o e)), ⟨oI, (sb5.2 _ ID).trans (k4 _ _ IC eI), rI⟩, acc5, ns4.sameBut sb5 DC.symm, by rw [Array.size_push, hsz'], fun j hj hji => ?_⟩
      by_cases e : j < i
      · obtain ⟨t', ht'⟩ := hvs j hj e
        exact ⟨t', by rw [Array.getElem?_push_lt (by omega), ← ht', Array.getElem?_eq_getElem]⟩
      · have : j = i := by omega
        subst this
        have z := @Array.getElem?_push_size _ its' (.int cs[j].2 u)
        rw [hsz'] at z
        exact ⟨u, z⟩
  exact codeAny_compStart_list (loop _ rfl) ((Walks.list hh s₁.heap.objs.size R hRI its).self 0 _ _ _ ⟨hit, stays_list old hR⟩ (loop _ rfl))
end
end Mine
end

section
/-! S2 -/
open PySem PySem.W PySem.Calls PyProof.Rows
set_option maxRecDepth 100000
namespace Mine
section
variable {prog : Program} {w : World} {A : Around} {E : Value → Shared → Prop} {s : Shared} {mg mb : Str → Option Value}

theorem upd_kp {h : Heap} {a : Addr} {f : Obj → Obj} {b : Addr} {o : Obj} (hb : b ≠ a) (e : h.get? b = some o) : (h.update a f).get? b = some o := ((Heap.SameBut.update h a f).2 b hb).trans e

/-- what is left of a sort by key once the keys are there, for at most one item -/
theorem sort_tail {a kS : Addr} {keys its : Array Value} {n1 n2 : Nat} {P : PySem.Fin → Shared → Prop} (hk : s.heap.get? kS = some (seqObj "list" keys n1)) (ha : s.heap.get? a = some (seqObj "list" #[] n2)) (hka : kS ≠ a)
    (hz : its.size < 2) (hks : keys.size = its.size)
    (h : ∀ h', (∀ b o, b ≠ a → b ≠ kS → s.heap.get? b = some o → h'.get? b = some o) → h'.PlainList a its → P (.done (.ret .none)) { s with heap := h' }) :
    wpAny (model prog w) A (ksk_end a false its n2 (.ref kS) keys) P E s := by
  have hmap : ((keys.zip its).map (·.2)) = its := by
    apply Array.ext
    · simp [hks]
    · intro i h1 h2; simp
  unfold ksk_end
  dsimp only
  rw [if_neg Bool.false_ne_true, if_pos hz, if_pos hz]
  refine wpAny_bind (wpAny_pure ?_)
  rw [StateT.run_pure]
  refine wpAny_bind (wpAny_pure ?_)
  dsimp only
  unfold ksk_tail
  dsimp only
  have s1 := Heap.SameBut.update s.heap kS (Obj.mapSeq fun _ => (#[] : Array Value))
  have ha1 : (s.heap.update kS (Obj.mapSeq fun _ => (#[] : Array Value))).get? a = some (seqObj "list" #[] n2) := (s1.2 a hka.symm).trans ha
  refine wpAny_bind (listUpdate_at hk rfl ?_ (by rw [sizeLine_eq]; omega) (Nat.zero_le _))
  refine wpAny_bind (wpAny_letGo ?_)
  refine wpAny_bind (seqEpoch_at ha1 rfl ?_)
  have earr : arrOf (SortSt.mk' general' (keys.zip its) #[] 7 none) = keys.zip its := rfl
  simp only [Bool.false_eq_true, if_false]
  rw [earr, hmap]
  refine wpAny_bind (listUpdate_at ha1 rfl ?_ (Nat.zero_le _) (by show its.size ≤ _; rw [sizeLine_eq]; omega))
  simp only [bne_self_eq_false, Bool.false_eq_true, if_false]
  refine wpAny_pure (h _ (fun b o h1 h2 e => upd_kp h1 (upd_kp h2 e)) ⟨_, get?_update_seq ha1 fun _ => its⟩)

theorem sort1 {a f : Addr} {its : Array Value} {n : Nat} {P : PySem.Fin → Shared → Prop} (ho : s.heap.get? a = some (seqObj "list" its n)) (hz : its = #[] ∨ ∃ x, its = #[x])
    (turn : ∀ x, its = #[x] → ∀ s', KpB a s s' → Nx s s' → wpAny (model prog w) A (call (.ref f) [x]) (fun v s'' => Nx s' s'' ∧ Kp s' s'') (fun _ _ => False) s')
    (h : ∀ s', Nx s s' → KpB a s s' → s'.heap.PlainList a its → P (.done (.ret .none)) s') :
    wpAny (model prog w) A (ksk_tree a (.ref f) false) P E s := by
  have ha : a < s.heap.objs.size := Heap.lt_size ho
  have s1 := Heap.SameBut.update s.heap a (Obj.mapSeq fun _ => (#[] : Array Value))
  obtain ⟨n1, ho1⟩ : ∃ e1, (s.heap.update a (Obj.mapSeq fun _ => (#[] : Array Value))).get? a = some (seqObj "list" #[] e1) := ⟨_, get?_update_seq ho fun _ => #[]⟩
  have hkS : ((s.heap.update a (Obj.mapSeq fun _ => (#[] : Array Value))).push (seqObj "tuple" its.toList.toArray 0)).objs.size = s.heap.objs.size + 1 := by rw [Heap.size_push, Heap.size_update]
  have hlen : its.toList.length < 2 := by rcases hz with rfl | ⟨x, rfl⟩ <;> simp
  unfold ksk_tree
  refine wpAny_bind (listItems_at ho rfl ?_)
  refine wpAny_bind (listUpdate_at ho rfl ?_ (by rw [← Array.length_toList, sizeLine_eq]; omega) (Nat.zero_le _))
  refine wpAny_bind (seqEpoch_at ho1 rfl ?_)
  refine wpAny_bind (wpAny_newTuple ?_ (by rw [sizeLine_eq]; omega))
  refine wpAny_bind (wpAny_newList ?_ (Nat.zero_le _))
  refine wpAny_holding ?_
  have hk0 : (((s.heap.update a (Obj.mapSeq fun _ => (#[] : Array Value))).push (seqObj "tuple" its.toList.toArray 0)).push (seqObj "list" #[] 0)).get? ((s.heap.update a (Obj.mapSeq fun _ => (#[] : Array Value))).push (seqObj "tuple" its.toList.toArray 0)).objs.size = some (seqObj "list" #[] 0) := Heap.get?_push_size _ rfl
  have ha0 : (((s.heap.update a (Obj.mapSeq fun _ => (#[] : Array Value))).push (seqObj "tuple" its.toList.toArray 0)).push (seqObj "list" #[] 0)).get? a = some (seqObj "list" #[] n1) := Heap.get?_push_of_some _ (Heap.get?_push_of_some _ ho1)
  have kp0 : ∀ b o, b ≠ a → s.heap.get? b = some o → (((s.heap.update a (Obj.mapSeq fun _ => (#[] : Array Value))).push (seqObj "tuple" its.toList.toArray 0)).push (seqObj "list" #[] 0)).get? b = some o := fun b o hb e => Heap.get?_push_of_some _ (Heap.get?_push_of_some _ (upd_kp hb e))
  show wpAny (model prog w) A (ksk_rest a (.ref f) false its n1 (.ref ((s.heap.update a (Obj.mapSeq fun _ => (#[] : Array Value))).push (seqObj "tuple" its.toList.toArray 0)).objs.size)) P E { s with heap := ((s.heap.update a (Obj.mapSeq fun _ => (#[] : Array Value))).push (seqObj "tuple" its.toList.toArray 0)).push (seqObj "list" #[] 0) }
  generalize hk : ((s.heap.update a (Obj.mapSeq fun _ => (#[] : Array Value))).push (seqObj "tuple" its.toList.toArray 0)).objs.size = kS at *
  generalize ((s.heap.update a (Obj.mapSeq fun _ => (#[] : Array Value))).push (seqObj "tuple" its.toList.toArray 0)).push (seqObj "list" #[] 0) = H0 at *
  have hka : kS ≠ a := fun z => absurd ha (by rw [z.symm.trans hkS]; exact Nat.not_lt_of_le (Nat.le_succ _))
  have nk : ∀ {b o}, s.heap.get? b = some o → b ≠ kS := fun e z => by
    have := Heap.lt_size e
    rw [z, hkS] at this
    exact absurd this (Nat.not_lt_of_le (Nat.le_succ _))
  unfold ksk_rest
  refine wpAny_bind (wpAny_rule ?_)
  rcases hz with rfl | ⟨x, rfl⟩
  · refine wpAny_bind ?_
    rw [← Array.forIn_toList]
    refine wpAny_pure ?_
    refine wpAny_bind (listItems_at hk0 rfl ?_)
    exact sort_tail (s := { s with heap := H0 }) hk0 ha0 hka (by decide) rfl fun h' k' pl => h _ ⟨rfl, rfl⟩ (fun b o hb e => k' b o hb (nk e) (kp0 b o hb e)) pl
  · refine wpAny_bind ?_
    rw [← Array.forIn_toList]
    show wpAny (model prog w) A (forIn [x] PUnit.unit _) _ _ _
    rw [List.forIn_cons]
    refine wpAny_bind (wpAny_bind (wpAny_attempt (wpAny_mono (turn x rfl { s with heap := H0 } (fun b o hb e => kp0 b o hb e) ⟨rfl, rfl⟩) (fun v s'' he => ?_) fun _ _ hF => hF.elim)))
    obtain ⟨nx, kp⟩ := he
    dsimp only
    obtain ⟨n3, hk3⟩ : ∃ e1, (s''.heap.update kS (Obj.mapSeq (·.push v))).get? kS = some (seqObj "list" (#[].push v) e1) := ⟨_, get?_update_seq (kp _ _ hk0) (·.push v)⟩
    refine wpAny_bind (listUpdate_at (kp _ _ hk0) rfl ?_ (Nat.zero_le _) (by show 1 ≤ _; rw [sizeLine_eq]; omega))
    refine wpAny_pure ?_
    dsimp only
    rw [List.forIn_nil]
    refine wpAny_pure ?_
    refine wpAny_bind (listItems_at (s := { s'' with heap := _ }) hk3 rfl ?_)
    exact sort_tail (s := { s'' with heap := _ }) hk3 (upd_kp hka.symm (kp _ _ ha0)) hka (by show 1 < 2; decide) rfl fun h' k' pl => h _ ⟨nx.gens, nx.os⟩ (fun b o hb e => k' b o hb (nk e) (upd_kp (nk e) (kp _ _ (kp0 b o hb e)))) pl
end
end Mine
end

section
/-! S3 -/
open PySem PySem.W PySem.Calls PyProof.Rows
set_option maxRecDepth 100000
namespace Mine
section
variable {prog : Program} {w : World} {A : Around} {E : Value → Shared → Prop} {s : Shared} {mg mb : Str → Option Value}

/-- a lambda called -/
theorem callFnE {f : Addr} {o : Obj} {fd : FuncData} {body : Expr} {pos : List Value} {kw : List (Str × Value)} {binds : List (Str × Value)} {Q : Value → Shared → Prop}
    (hroom : A.depth < recursionLimit) (ho : s.heap.get? f = some o) (hd : o.data = .func fd) (hbody : fd.body = .expr body) (hcd : s.heap.CodeRec fd.code fd.qualname) (NL : s.heap.NoLimit)
    (hbind : BindsTo s fd ⟨pos, kw⟩ binds) (hcell : ∀ x ∈ fd.scope.names, x.2 ≠ .cell) (hloc : ∀ x ∈ binds, fd.scope.names.lookup x.1 = some .local)
    (h : ∀ L s₁, s.heap.get? L = none → Nx s s₁ → Kp s s₁ → s₁.heap.Ns L (fun x => binds.reverse.lookup x) →
      wpAny (model prog w) (A.deeper (callEnv fd L f)) (eval body (callEnv fd L f)) Q (fun _ _ => False) s₁)
    (hco : fd.scope.isCoroutine = false) (hgen : fd.scope.isGenerator = false) (hk : fd.scope.kind = .function) :
    wpAny (model prog w) A (call (.ref f) pos kw) Q E s := by
  refine wpAny_call (kla_callFunE hroom ho hd hco hgen hbody hcd ?_)
  refine hbind _ _ _ _ (wpAny_newFunctionEnv hcell hloc (fun h₁ hns hsb => ⟨NL.fresh _ hsb, ?_⟩) hk)
  exact kla_codeExpr (wpAny_mono (h s.heap.objs.size _ (fresh_size _) ⟨rfl, rfl⟩ (fun b o e => hsb.extBut b o (Nat.ne_of_lt (Heap.lt_size e)) (Heap.get?_push_of_some _ e)) hns) (fun v s' q => q) fun _ _ q => q.elim)

/-- a lambda made within a def -/
theorem mkLam {name qual : Str} {params : Arguments} {body : Expr} {scope : Scope} {env : Env} {c P : Addr} {es : List (Pos × Str)} {pos : Pos} {fl : Nat} {clos : List (Str × Addr)} {Q : Value → Shared → Prop}
    (gd : Gd w mg mb s.heap) (hT : TabOk c P es s.heap) (hin : (pos, qual) ∈ es) (hap : ∀ e ∈ es, e.1.line = pos.line ∧ e.1.col = pos.col → e = (pos, qual))
    (hcl : closureFor scope env = pure clos) (hge : env.globals = mainGlobals) (hcode : env.code = .ref c)
    (h : ∀ f c' ctv pm s', Nx s s' → (∀ b o, b ≠ P → s.heap.get? b = some o → s'.heap.get? b = some o) → s.heap.get? f = none → TabOk c P es s'.heap →
      s'.heap.get? f = some (kla_obj name qual params body scope clos pm c' ctv) → s'.heap.CodeRec (.ref c') qual → Q (.ref f) s') :
    wpAny (model prog w) A (makeFunction name qual params (.expr body) scope env [] [] [] pos fl) Q E s := by
  obtain ⟨hC, ps, hP, ht, hes⟩ := hT
  have hb : s.heap.BuiltinsAt mg P := gd.at hP rfl
  have hgP : mainGlobals ≠ P := fun z => by
    obtain ⟨o, es', ep, e, d, _⟩ := gd.G
    rw [z, hP] at e; cases e; cases d
  rcases hes _ hin with hn | ⟨c', hh, hr⟩
  · refine kla_makeFunction hcl hge gd.G hcode hC hP ht hn hgP hb fun c' ctv h' tk ext hge' hlt hrec htab => ?_
    have kk : ∀ b o, b ≠ P → s.heap.get? b = some o → (h'.push (kla_obj name qual params body scope clos ((mg "__name__").getD .none) c' ctv)).get? b = some o := fun b o hb' e => Heap.get?_push_of_some _ (ext b o hb' e)
    refine h h'.objs.size c' ctv _ _ ⟨rfl, rfl⟩ kk ?_ ?_ (Heap.get?_push_size _ rfl) (hrec.push _)
    · cases q : s.heap.get? h'.objs.size with
      | none => rfl
      | some o => exact absurd (Nat.lt_of_lt_of_le (Heap.lt_size q) (Nat.le_trans hge' (Nat.le_of_lt hlt))) (Nat.lt_irrefl _)
    · refine ⟨?_, _, Heap.get?_push_of_some _ htab, ?_, fun e he => ?_⟩
      · obtain ⟨o, vs, file, tf, flags, tg, inF, text, tt, e1, e2, e3, e4, r1, r2, r3, r4, r5, r6⟩ := hC
        exact ⟨o, vs, file, tf, flags, tg, inF, text, tt, kk _ _ r6 e1, e2, e3, e4, r1, r2, r3, r4, r5, r6⟩
      · have : (ps ++ #[rawInt pos.line, rawInt pos.col, Value.ref c']).toList = ps.toList ++ [rawInt pos.line, rawInt pos.col, .ref c'] := by simp
        rw [this]; exact triples_app _ _ _ _ _ _ ht
      · have e1 : (ps ++ #[rawInt pos.line, rawInt pos.col, Value.ref c']).toList = ps.toList ++ [rawInt pos.line, rawInt pos.col, .ref c'] := by simp
        rw [e1, codeAmong_app _ _ ht]
        rcases hes e he with hn' | ⟨c₂, hh', hr'⟩
        · rw [hn']
          by_cases hm : e.1.line = pos.line ∧ e.1.col = pos.col
          · have := hap e he hm
            subst this
            right
            refine ⟨c', ?_, hrec.push _⟩
            simp [codeAmong, rawInt]
          · left
            simp only [codeAmong, rawInt]
            rw [if_neg]
            intro z
            simp only [Bool.and_eq_true, beq_iff_eq, Int.natCast_inj] at z
            exact hm ⟨z.1.symm, z.2.symm⟩
        · rw [hh']
          right
          refine ⟨c₂, rfl, ?_⟩
          obtain ⟨c3, o, vs, t, x1, x2, x3, x4⟩ := hr'
          refine ⟨c3, o, vs, t, x1, kk c3 o (fun z => ?_) x2, x3, x4⟩
          subst z
          rw [hP] at x2
          cases x2
          cases x3
          exact triples_no_str ht x4
  · refine kla_makeFunctionHit hcl hge gd.G hcode hC hP ht hh hb fun ctv h' tk k _ => ?_
    have kk : ∀ b o, s.heap.get? b = some o → (h'.push { cls := .type "function", data := .func (kla_fn name qual params body scope clos ((mg "__name__").getD .none) (.ref c') ctv) }).get? b = some o := fun b o e => Heap.get?_push_of_some _ (k b o e)
    refine h h'.objs.size c' ctv _ _ ⟨rfl, rfl⟩ (fun b o _ e => kk b o e) ?_ (TabOk.keeps ⟨hC, ps, hP, ht, hes⟩ kk) (Heap.get?_push_size _ rfl) (hr.keeps kk)
    cases q : s.heap.get? h'.objs.size with
    | none => rfl
    | some o => exact absurd (Heap.lt_size (k _ _ q)) (Nat.lt_irrefl _)

def lamPar : Arguments := match (bodyM (topSt 3)).getD 14 noSt with
  | .Expr (.Call _ _ [⟨_, .Lambda a _ _ _, _⟩] _) _ => a
  | _ => default
def lamBody : Expr := match (bodyM (topSt 3)).getD 14 noSt with
  | .Expr (.Call _ _ [⟨_, .Lambda _ b _ _, _⟩] _) _ => b
  | _ => .Constant .none 0 ⟨0, 0, 0, 0⟩
def lamScope : Scope := match (bodyM (topSt 3)).getD 14 noSt with
  | .Expr (.Call _ _ [⟨_, .Lambda _ _ sc _, _⟩] _) _ => sc
  | _ => default

theorem lam_wp {f c' x : Addr} {pm ctv : Value} {a b : Value} {Q : Value → Shared → Prop} (gd : Gd w mg mb s.heap) (hd : A.depth + 2 < recursionLimit) (hf : s.heap.get? f = some (kla_obj "<lambda>" lamQual lamPar lamBody lamScope [] pm c' ctv)) (hc : s.heap.CodeRec (.ref c') lamQual)
    (hx : IsTup s.heap x #[a, b]) (h : ∀ s', Nx s s' → Kp s s' → Q a s') : wpAny (model prog w) A (call (.ref f) [.ref x]) Q E s := by
  refine callFnE (f := f) (body := lamBody) (binds := [("x", .ref x)]) (by omega) hf rfl rfl hc gd.NL (BindsTo.of_eq rfl) (by show ∀ x ∈ lamScope.names, x.2 ≠ .cell; decide) (locs rfl) (fun L s₁ hL x₁ k₁ ns₁ => ?_) rfl rfl rfl
  have hx1 : IsTup s₁.heap x #[a, b] := hx.keeps k₁
  refine Subscript_ (nmL ns₁ rfl (wpAny_Constant_int (subscriptTail_builtin (s := { s₁ with toks := s₁.toks + 1 }) (typeIs_tup hx1 rfl) PyProof.Rows.slot_tuple_getitem.lookup (PyProof.Rows.getItem_tuple (s := { s₁ with toks := s₁.toks + 1 }) (j := 0) hx1 (by decide) (by decide) rfl rfl ?_))))
  exact h _ ⟨x₁.gens, x₁.os⟩ k₁
end
end Mine
end

section
/-! S4 -/
open PySem PySem.W PySem.Calls PyProof.Rows
set_option maxRecDepth 100000
namespace Mine
section
variable {w : World} {A : Around} {E : Value → Shared → Prop} {s : Shared} {mg mb : Str → Option Value} {hB : Heap} {I : Ids}

theorem res_for (gB : Gd w mg mb hB) (e87 : hB.get? 87 ≠ none) (hh0 : A.handled = none) (hcD : I.cD = I.L + 1)
    {m : Str → Option Value} {items : Array Value} {q : Qu} {st : St} {nD : Nat} {cits : Array Value} {cs : List PI} {R : Addr} {Q : Flow → Shared → Prop}
    (X : FS w mg mb hB I m items q st nD cits cs s) (hm : m "results" = some (.ref R)) (hR : s.heap.PlainList R #[]) (hRB : hB.get? R = none) (hRP : I.P ≠ R) (hRC : I.CA ≠ R)
    (hcs : cs.length ≤ 1) (hok : ∀ i, (hi : i < cs.length) → ∃ f, st (cs[i]).2 = some f ∧ f.d = false)
    (h : ∀ s' m' rits, FS w mg mb hB I m' items q st nD cits cs s' → m' "results" = some (.ref R) → s'.heap.PlainList R rits → TupsAt s'.heap rits cs → Q .next s') :
    wpAny (model prg w) A (exec ((bodyM (topSt 3)).getD 13 noSt) (fE I.L)) Q E s := by
  refine wpAny_For (nmL X.ns (X.loc.at rfl) (wpAny_pyIter_list X.ca.isList ?_))
  have pu : ∀ b o, s.heap.get? b = some o → (s.heap.push { cls := .type "list_iterator", data := .fields #[.ref I.CA, .int 0 0] }).get? b = some o := fun b o e => Heap.get?_push_of_some _ e
  have ltL : ∀ {b o}, s.heap.get? b = some o → s.heap.objs.size ≠ b := fun e z => Nat.lt_irrefl _ (z ▸ Heap.lt_size e)
  have fA := X.base.fresh
  have aR : s.heap.objs.size ≠ R := by obtain ⟨n, e⟩ := hR; exact ltL e
  have aCA : s.heap.objs.size ≠ I.CA := by obtain ⟨n, e⟩ := X.ca; exact ltL e
  have aL : s.heap.objs.size ≠ I.L := by obtain ⟨o, _, _, e, _⟩ := X.ns; exact ltL e
  refine codeAny_forLoop_any (fun n s' => ∃ i m rits, n + i = cs.length ∧ FS w mg mb hB I m items q st nD cits cs s' ∧ m "results" = some (.ref R) ∧ s'.heap.PlainList R rits ∧ TupsAt s'.heap rits (cs.take i) ∧
      s'.heap.IsListIter s.heap.objs.size I.CA i) ?_ cs.length ⟨0, m, #[], rfl, X.ext ⟨rfl, id, fun b o _ e => pu b o e⟩, hm, hR.at (fun o e => pu _ _ e), ⟨rfl, fun i hi => absurd hi (by simp)⟩, ⟨_, Heap.get?_push_size _ rfl, rfl, rfl⟩⟩
  clear X hm hR
  rintro n s0 ⟨i, m, rits, hni, X, hm, hR, hT, hit⟩
  obtain ⟨oa, ea, ca, da⟩ := id hit
  cases n with
  | zero =>
    refine wpAny_pyNext_list_end hh0 hit X.ca.isList (by rw [Array.getElem?_eq_none]; rw [X.cat.1]; omega) fun h' ex => ?_
    have X' := X.aside (s' := { s0 with heap := h' }) gB ea ca da (fun y t z => by cases z) fA e87 (fun b o hb e => ex b o hb e) id rfl
    have e0 : cs.take i = cs := List.take_of_length_le (by omega)
    rw [e0] at hT
    refine wpAny_execs_nil (h _ _ rits X' hm (hR.at fun o e => ex _ _ aR.symm e) ⟨hT.1, fun j hj => ?_⟩)
    obtain ⟨a, t, u, h1, o, h2, h3, n', h4⟩ := hT.2 j hj
    exact ⟨a, t, u, h1, o, ex _ _ (ne_kd h2 ea (by simp [kd, h4, da])) h2, h3, n', h4⟩
  | succ n =>
    have hi : i < cs.length := by omega
    have i0 : i = 0 := by omega
    subst i0
    obtain ⟨T, t, u, hTi, hTt⟩ := X.cat.2 0 hi
    obtain ⟨f, hst, hfd⟩ := hok 0 hi
    have hrs : rits.size = 0 := by rw [hT.1]; rfl
    have hr0 : rits = #[] := Array.eq_empty_of_size_eq_zero hrs
    subst hr0
    refine wpAny_pyNext_list_item hit X.ca.isList hTi fun h' hit2 hsb => ?_
    have kA : ∀ b o, b ≠ s.heap.objs.size → s0.heap.get? b = some o → h'.get? b = some o := fun b o hb e => (hsb.2 b hb).trans e
    have X1 := X.aside (s' := { s0 with heap := h' }) gB ea ca da (fun y t z => by cases z) fA e87 kA id rfl
    have R1 : h'.PlainList R #[] := hR.at fun o e => kA _ _ aR.symm e
    have T1 : IsTup h' T #[.int (cs[0]).1 t, .int (cs[0]).2 u] := by
      obtain ⟨o, h2, h3, n', h4⟩ := hTt
      exact ⟨o, kA _ _ (ne_kd h2 ea (by simp [kd, h4, da])) h2, h3, n', h4⟩
    generalize hc0 : (cs[0]).2 = c at *
    generalize hd0 : (cs[0]).1 = dt at *
    refine wpAny_letOwnedTupleGo_listiter (s := { s0 with heap := h' }) hit2 ?_
    refine unpack2 (s := { s0 with heap := h' }) (t := T) hh0 T1 X1.ns fun s2 x2 ns2 k2 => ?_
    have X2 := X1.local x2 ns2 k2 ((X1.loc.upd _ rfl).upd _ rfl)
    have RL : R ≠ I.L := by
      obtain ⟨n0, e0⟩ := R1
      obtain ⟨oL, _, _, eL, dL, _⟩ := X1.ns
      exact ne_kd e0 eL (by simp [kd, dL])
    have R2 : s2.heap.PlainList R #[] := R1.at fun o e => k2 _ _ RL e
    have it2 : s2.heap.IsListIter s.heap.objs.size I.CA 1 := by
      obtain ⟨o, e, r⟩ := hit2
      exact ⟨o, k2 _ _ aL e, r⟩
    obtain ⟨fm, im, hfm⟩ := id X2.c
    have hck := hfm c
    rw [hst] at hck
    obtain ⟨t9, hck⟩ := hck
    have cell : ∀ s6 : Shared, s6.heap = s2.heap → s6.heap.IsCell (I.L + 1) (some (.int 4 I.t4)) := fun s6 e => by rw [e, ← hcD]; exact X2.base.cell
    refine wpAny_execs_cons (wpAny_If (wpAny_isTrue_BoolOp (wpAny_allTrue_And_cons (wpAny_isTrue_Not (wpAny_isTrue_Compare1 ?_)))))
    refine wpAny_BinOp (Subscript_ (nmL X2.ns (X2.loc.at rfl) (nmL X2.ns rfl (subscriptTail_builtin im.typeIs slot_dict_getitem.lookup (wpAny_getItem_intMap im.intMap hck ?_)))))
    refine nmC (c := I.L + 1) (cell _ rfl) (and_int (nmC (c := I.L + 1) (cell _ rfl) (eq_int (wpAny_truthy_bool ?_))))
    rw [and4_eq, hfd]
    refine itT rfl (wpAny_allTrue_And_cons (wpAny_isTrue_Compare1 ?_))
    refine wpAny_Tuple (wpAny_items_cons (nmL (s := ⟨s2.heap, _, _, _, _⟩) X2.ns rfl (wpAny_items_cons (nmL (s := ⟨s2.heap, _, _, _, _⟩) X2.ns rfl (wpAny_items_nil ⟨two_fits _ _, ?_⟩)))))
    have pu2 : ∀ b o, s2.heap.get? b = some o → (s2.heap.push { cls := .type "tuple", data := .seq ([Value.int dt t, Value.int c u] : List Value).toArray }).get? b = some o := fun b o e => Heap.get?_push_of_some _ e
    have X3 := X2.ext (s' := ⟨s2.heap.push { cls := .type "tuple", data := .seq ([Value.int dt t, Value.int c u] : List Value).toArray }, s2.gens, s2.drawn, s2.toks + 1 + 1, s2.os⟩) ⟨rfl, id, fun b o _ e => pu2 b o e⟩
    have R3 := R2.at fun o e => pu2 _ _ e
    refine nmL (s := ⟨s2.heap.push { cls := .type "tuple", data := .seq ([Value.int dt t, Value.int c u] : List Value).toArray }, s2.gens, s2.drawn, s2.toks + 1 + 1, s2.os⟩) X3.ns hm ?_
    refine SeqAt.notIn_listAt (fun _ => false) R3.isList (fun y hy => absurd hy (by simp)) (wpAny_truthy_bool ?_)
    refine itT (by simp) (wpAny_allTrue_And_nil (itT rfl ?_))
    refine wpAny_execs_cons (wpAny_Expr_any (MethodCall_ (nmL X3.ns hm ?_)))
    obtain ⟨nR, eR⟩ := id R3
    refine getMethod_list_append eR rfl rfl ?_
    refine callWith_method1 (wpAny_items_cons (wpAny_Tuple (wpAny_items_cons (nmL X3.ns rfl (wpAny_items_cons (nmL X3.ns rfl (wpAny_items_nil ⟨two_fits _ _, wpAny_items_nil ?_⟩)))))))
    generalize hH3 : s2.heap.push { cls := .type "tuple", data := .seq ([Value.int dt t, Value.int c u] : List Value).toArray } = H3 at *
    have pu3 : ∀ b o, H3.get? b = some o → (H3.push { cls := .type "tuple", data := .seq ([Value.int dt t, Value.int c u] : List Value).toArray }).get? b = some o := fun b o e => Heap.get?_push_of_some _ e
    have X4 := X3.ext (s' := ⟨H3.push { cls := .type "tuple", data := .seq ([Value.int dt t, Value.int c u] : List Value).toArray }, s2.gens, s2.drawn, s2.toks + 1 + 1, s2.os⟩) ⟨rfl, id, fun b o _ e => pu3 b o e⟩
    have R4 := R3.at fun o e => pu3 _ _ e
    have T2R : H3.objs.size ≠ R := fun z => Nat.lt_irrefl _ (z ▸ Heap.lt_size eR)
    refine wpAny_list_append_plain (s := ⟨H3.push { cls := .type "tuple", data := .seq ([Value.int dt t, Value.int c u] : List Value).toArray }, s2.gens, s2.drawn, s2.toks + 1 + 1, s2.os⟩) R4 (fun h5 R5 sb5 => ?_) (by rw [sizeLine_eq]; simp)
    refine wpAny_execs_nil (wpAny_execs_nil ?_)
    have X5 := X4.lst (s' := ⟨h5, s2.gens, s2.drawn, s2.toks + 1 + 1, s2.os⟩) R4.isList hRB hRP hRC (fun b o hb e => (sb5.2 b hb).trans e) id rfl
    refine ⟨n, Nat.lt_succ_self _, 1, _, _, by omega, X5, hm, R5, ⟨?_, fun j hj => ?_⟩, ?_⟩
    · rw [List.length_take]; simp; omega
    · have j0 : j = 0 := by rw [List.length_take] at hj; omega
      subst j0
      refine ⟨H3.objs.size, t, u, rfl, ?_⟩
      rw [List.getElem_take, hc0, hd0]
      exact ⟨_, (sb5.2 _ T2R).trans (Heap.get?_push_size _ rfl), rfl, _, rfl⟩
    · obtain ⟨o, e, r⟩ := it2
      exact ⟨o, (sb5.2 _ aR).trans (pu3 _ _ (pu2 _ _ e)), r⟩
end
end Mine
end

section
/-! S5 -/
open PySem PySem.W PySem.Calls PyProof.Rows
set_option maxRecDepth 100000
namespace Mine
theorem tabPosL : ∀ e ∈ tabEs, e.1.line = lamPos.line ∧ e.1.col = lamPos.col → e = (lamPos, lamQual) := by decide +kernel
theorem tabPosH : ∀ e ∈ tabEs, e.1.line = hcPos.line ∧ e.1.col = hcPos.col → e = (hcPos, hcQual) := by decide +kernel
theorem CodeRec.mv {h h' : Heap} {a : Addr} {oa : Obj} (ha : h.get? a = some oa) (hk : kd oa.data ≠ 3) (k : ∀ b o, b ≠ a → h.get? b = some o → h'.get? b = some o) {cd : Value} {q : Str} (x : h.CodeRec cd q) : h'.CodeRec cd q := by
  obtain ⟨c, o, vs, t, e1, e2, e3, e4⟩ := x
  exact ⟨c, o, vs, t, e1, k _ _ (ne_kd e2 ha (by rw [e3]; exact fun z => hk z.symm)) e2, e3, e4⟩
theorem TabOk.mv {c P : Addr} {es : List (Pos × Str)} {h h' : Heap} {a : Addr} {oa : Obj} (x : TabOk c P es h) (ha : h.get? a = some oa) (hk : kd oa.data ≠ 3) (k : ∀ b o, b ≠ a → h.get? b = some o → h'.get? b = some o) : TabOk c P es h' := by
  have go : ∀ {b : Addr} {o : Obj}, h.get? b = some o → kd o.data = 3 → h'.get? b = some o := fun {b o} e h1 => k b o (ne_kd e ha (by rw [h1]; exact fun z => hk z.symm)) e
  obtain ⟨⟨o, vs, file, tf, flags, tg, inF, text, tt, e1, e2, e3, r⟩, ps, e, t, z⟩ := x
  exact ⟨⟨o, vs, file, tf, flags, tg, inF, text, tt, go e1 (by rw [e3]; rfl), e2, e3, r⟩, ps, go e rfl, t, fun q hq => (z q hq).imp id fun ⟨c', h1, h2⟩ => ⟨c', h1, CodeRec.mv ha hk k h2⟩⟩
section
variable {w : World} {A : Around} {E : Value → Shared → Prop} {s : Shared} {mg mb : Str → Option Value} {hB : Heap} {I : Ids}

theorem tail_wp (gB : Gd w mg mb hB) (e87 : hB.get? 87 ≠ none) (hd : A.depth + 8 < recursionLimit) (hu : A.units + 60 < cLine) (hh0 : A.handled = none) (hcD : I.cD = I.L + 1)
    {m : Str → Option Value} {items : Array Value} {q : Qu} {st : St} {nD : Nat} {cits : Array Value} {cs : List PI} {Q : Flow → Shared → Prop}
    (X : FS w mg mb hB I m items q st nD cits cs s)
    (hcs : cs.length ≤ 1) (hok : ∀ i, (hi : i < cs.length) → ∃ f, st (cs[i]).2 = some f ∧ f.d = false)
    (h : ∀ s' D, (∀ b o, b ≠ 87 → hB.get? b = some o → s'.heap.get? b = some o) → AllBare s'.gens → s'.os = I.oS → TabOk 89 87 tabEs s'.heap → LiI s'.heap D (cs.map (·.2)) → hB.get? D = none → Q (.ret (.ref D)) s') :
    wpAny (model prg w) A (execs ((bodyM (topSt 3)).drop 12) (fE I.L)) Q E s := by
  refine wpAny_execs_cons (wpAny_Assign_Name (wpAny_List (wpAny_items_nil ⟨Nat.zero_le _, ?_⟩)))
  have pu : ∀ b o, s.heap.get? b = some o → (s.heap.push { cls := .type "list", data := .seq ([] : List Value).toArray }).get? b = some o := fun b o e => Heap.get?_push_of_some _ e
  have ltR : ∀ {b o}, s.heap.get? b = some o → b ≠ s.heap.objs.size := fun e z => Nat.lt_irrefl _ (z ▸ Heap.lt_size e)
  have fR := X.base.fresh
  have RL : s.heap.objs.size ≠ I.L := by obtain ⟨o, _, _, e, _⟩ := X.ns; exact (ltR e).symm
  have RP : I.P ≠ s.heap.objs.size := by obtain ⟨o, e, _⟩ := X.p; exact ltR e
  have RC : I.CA ≠ s.heap.objs.size := by obtain ⟨o, e⟩ := X.ca; exact ltR e
  refine (X.ext (s' := ⟨s.heap.push { cls := .type "list", data := .seq ([] : List Value).toArray }, s.gens, s.drawn, s.toks, s.os⟩) ⟨rfl, id, fun b o _ e => pu b o e⟩).set (fun s1 x1 k1 X1 => ?_) rfl
  have R1 : s1.heap.PlainList s.heap.objs.size #[] := ⟨_, k1 _ _ RL (Heap.get?_push_size _ rfl)⟩
  generalize s.heap.objs.size = R at *
  refine wpAny_execs_cons ?_
  refine res_for gB e87 hh0 hcD X1 (upd_self _ _ _) R1 fR RP RC hcs hok fun s2 m2 rits X2 hm2 R2 T2 => ?_
  -- sort
  have gd2 := X2.gd gB
  have RL2 : R ≠ I.L := RL
  refine wpAny_execs_cons (wpAny_Expr_any (methodCall_KW (nmL X2.ns hm2 ?_)))
  obtain ⟨nR, eR⟩ := id R2
  refine getMethod_builtin ⟨_, eR, rfl⟩ PySem.F.plainAttrs_list PySem.F.slot_list_sort PySem.F.type_list_sort (fun a e => by cases e; exact ⟨_, eR, rfl⟩) ?_
  refine callWith_builtin_kwB rfl rfl (evalArgs_kw2_nil rfl (kws_cons (kla_eval rfl ?_)))
  refine mkLam gd2 X2.base.tab (.tail _ (.head _)) tabPosL rfl rfl rfl fun f c' ctv pm s3 x3 k3 hf3 tab3 ob3 cr3 => ?_
  refine kws_nil ?_
  have n87 : R ≠ 87 := fun z => by rw [z] at fR; exact e87 fR
  have eR3 := k3 _ _ n87 eR
  have gdK : ∀ s' : Shared, (∀ b o, b ≠ 87 → hB.get? b = some o → s'.heap.get? b = some o) → Gd w mg mb s'.heap := fun s' k => gB.kpT fun b o h1 _ e => k b o h1 e
  have kB3 : ∀ b o, b ≠ 87 → hB.get? b = some o → s3.heap.get? b = some o := fun b o hb e => k3 b o hb (X2.base.keep b o hb e)
  refine wpAny_call_entry_kw PyProof.Rows.slot_list_sort ⟨_, eR3, rfl⟩ PyProof.Rows.entry_list_sort ?_ (ksk_l1 _ _)
  show wpAny (model prg w) A.in1 (Builtin.«list.sort» ⟨[.ref R], [(Str.ofString "key", .ref f)]⟩) _ E s3
  rw [ksk_t1]
  have hz : rits = #[] ∨ ∃ x, rits = #[x] := by
    have := T2.1
    rcases rits with ⟨l⟩
    match l, this with
    | [], _ => exact .inl rfl
    | [x], _ => exact .inr ⟨x, rfl⟩
    | _ :: _ :: _, z => simp at z; omega
  have f2R : f ≠ R := fun z => by rw [z, eR] at hf3; cases hf3
  have tk3 : ∀ {a : Addr} {xs : Array Value}, IsTup s2.heap a xs → IsTup s3.heap a xs := fun ⟨o, e, c, n, d⟩ => ⟨o, k3 _ _ (fun z => by
    obtain ⟨_, ps, e1, _⟩ := X2.base.tab
    rw [z, e1] at e; cases e; cases d) e, c, n, d⟩
  have tkR : ∀ {s' : Shared} {a : Addr} {xs : Array Value}, KpB R s3 s' → IsTup s3.heap a xs → IsTup s'.heap a xs := fun k h => tup_kd eR3 (.inr rfl) k h
  refine sort1 eR3 hz (fun x hx s' k' nx' => ?_) fun s4 nx4 k4 R4 => ⟨.none, rfl, ?_⟩
  · have h0 : 0 < cs.length := by
      have := T2.1; rw [hx] at this; rw [← this]; exact Nat.one_pos
    obtain ⟨T, t, u, hT1, hT2⟩ := T2.2 0 h0
    rw [hx] at hT1
    cases hT1
    refine lam_wp (gdK s' fun b o hb e => k' b o (fun z => by rw [z, fR] at e; cases e) (kB3 b o hb e)) (by show A.depth + 2 < _; omega) (k' _ _ f2R ob3) (CodeRec.mv eR3 (by simp [kd]) k' cr3) (tkR k' (tk3 hT2)) fun s'' a b => ⟨a, b⟩
  · have ns3 : s3.heap.Ns I.L m2 := by
      obtain ⟨o, es, ep, e, d, r⟩ := X2.ns
      obtain ⟨_, ps, e1, _⟩ := X2.base.tab
      exact ⟨o, es, ep, k3 _ _ (ne_kd e e1 (by simp [kd, d, tabObj])) e, d, r⟩
    have ns4 : s4.heap.Ns I.L m2 := by
      obtain ⟨o, es, ep, e, d, r⟩ := ns3
      exact ⟨o, es, ep, k4 _ _ RL.symm e, d, r⟩
    have T4 : TupsAt s4.heap rits cs := ⟨T2.1, fun i hi => by
      obtain ⟨a, t, u, h1, h2⟩ := T2.2 i hi
      exact ⟨a, t, u, h1, tkR k4 (tk3 h2)⟩⟩
    have tab4 : TabOk 89 87 tabEs s4.heap := TabOk.mv tab3 eR3 (by simp [kd]) k4
    have kB4 : ∀ b o, b ≠ 87 → hB.get? b = some o → s4.heap.get? b = some o := fun b o hb e => k4 b o (fun z => by rw [z, fR] at e; cases e) (kB3 b o hb e)
    refine wpAny_execs_cons (lc_pair (nmL ns4 hm2 ⟨R, rits, cs, m2, rfl, R4.isList, T4, by omega, hh0, ns4, fun s5 D nx5 k5 ns5 li5 fD => ?_⟩))
    refine wpAny_execs_cons (wpAny_Return_some (nmL ns5 (upd_self _ _ _) ?_))
    obtain ⟨oL, _, _, eL, dL, _⟩ := ns4
    refine h s5 D (fun b o hb e => k5 b o (fun z => by rw [z, X.f1] at e; cases e) (kB4 b o hb e)) ?_ ?_ (TabOk.mv tab4 eL (by simp [kd, dL]) k5) li5 ?_
    · rw [nx5.gens, nx4.gens, x3.gens]; exact X2.base.bare
    · rw [nx5.os, nx4.os, x3.os]; exact X2.base.os
    · cases q : hB.get? D with
      | none => rfl
      | some o =>
        by_cases e : D = 87
        · obtain ⟨_, ps, e1, _⟩ := tab4
          rw [e, e1] at fD; cases fD
        · rw [kB4 _ _ e q] at fD; cases fD
end
end Mine
end

section
/-! S6 -/
open PySem PySem.W PySem.Calls PyProof.Rows
set_option maxRecDepth 100000
set_option maxHeartbeats 4000000
namespace Mine
def fl1 : Fl := ⟨true, false, false, false⟩
def fl2 : Fl := ⟨false, true, false, false⟩
section
variable {w : World} {A : Around} {E : Value → Shared → Prop} {s : Shared} {mg mb : Str → Option Value} {hB : Heap} {I : Ids}
variable {U : List Int} {par : Int → List Int} {stamp : Int → Int} {Le : Int → Int → Prop} {c1 c2 g : Int}

theorem stM_put {h h' : Heap} {C : Addr} {st : St} {k : Int} {f : Fl} {t : Tok} {fm : Int → Option Value} (hfm : ∀ k, match st k with | none => fm k = none | some f => ∃ t, fm k = some (.int f.n t)) (im : IMap w h' C (fun x => if x = k then some (.int f.n t) else fm x)) : StM w h' C (st.put k f) := by
  refine ⟨_, im, fun x => ?_⟩
  by_cases hk : x = k
  · subst hk
    rw [St.put_self]
    exact ⟨_, if_pos rfl⟩
  · rw [St.put_ne _ _ hk]
    have := hfm x
    rw [if_neg hk]
    exact this

theorem find2 (H : Hist U par stamp Le) (M : Meet U stamp Le c1 c2 g I.mn) (gB : Gd w mg mb hB) (e87 : hB.get? 87 ≠ none) (SP : CallI w hB U I.fst (RSt stamp)) (PP : CallI w hB U I.fpar (RPar par)) (hpl : ∀ c ∈ U, (par c).length ≤ 1000)
    (hd : A.depth + 8 < recursionLimit) (hu : A.units + 60 < cLine) (hh0 : A.handled = none) (hU : U.length ≤ 1000)
    {m : Str → Option Value} {q : Qu} {l2 : Addr} {tc : Tok} {Q : Flow → Shared → Prop}
    (hcD : I.cD = I.L + 1) (X : FS w mg mb hB I m #[] q (fun _ => none) 0 #[] [] s) (hq : q.n = 0) (hc1 : m "c1" = some (.int c1 tc)) (hc2 : m "c2s" = some (.ref l2)) (hl2 : LiI hB l2 [c2]) (l87 : l2 ≠ 87)
    (h : ∀ s' D, (∀ b o, b ≠ 87 → hB.get? b = some o → s'.heap.get? b = some o) → AllBare s'.gens → s'.os = I.oS → TabOk 89 87 tabEs s'.heap → LiI s'.heap D (if I.mn ≤ stamp g then [g] else []) → hB.get? D = none → Q (.ret (.ref D)) s') :
    wpAny (model prg w) A (execs ((bodyM (topSt 3)).drop 8) (fE I.L)) Q E s := by
  have fnA : ∀ {h : Heap}, (∀ b o, b ≠ 87 → hB.get? b = some o → h.get? b = some o) → FnAt I.fst h := fun k => by
    obtain ⟨oc, od, fd, sl, e⟩ := SP.fn
    exact ⟨oc, od, fd, sl, k _ _ SP.ne e⟩
  -- cstates[c1] = 1
  obtain ⟨fm, im, hfm⟩ := id X.c
  refine wpAny_execs_cons (wpAny_Assign_Subscript (nmL X.ns (X.loc.at rfl) (nmL X.ns (X.loc.at rfl) (nmL X.ns hc1 ?_))))
  refine setItem_le im X.le (Nat.zero_le _) fun h1 im1 le1 sb1 => ?_
  have X1 := X.cst (tk' := s.toks + 1) sb1 (stM_put (st := fun _ => none) (h := s.heap) (fm := fm) (f := fl1) hfm im1) le1
  clear im1 sb1 im hfm
  -- wlst.add((lookup_stamp(c1), c1))
  have Ia : PySem.W.InstAt h1 I.W (instObj 80 I.DW) 80 (some (dictOf [⟨I.hsh, .str "pq" I.tk, .ref I.P⟩] 1)) := ⟨X1.base.w, rfl, rfl, X1.base.dw⟩
  refine wpAny_execs_cons (wpAny_Try_except (wpAny_execs_cons (wpAny_Expr_any (MethodCall_ (nmL (s := ⟨h1, _, _, _, _⟩) X1.ns (X1.loc.at rfl) (methodInst (s := ⟨h1, _, _, _, _⟩) (X1.gd gB).X Ia (pgAdd w) (fAdd w) (isAdd w) rfl ?_))))))
  refine callWith_K (h₀ := h1) (X1.gd gB).X (kpAdd w) (wpAny_items_cons (wpAny_Tuple (wpAny_items_cons ?_)))
  refine wpAny_Call_NameR (nmL (s := ⟨h1, _, _, _, _⟩) X1.ns (X1.loc.at rfl) (callWith_F (fnA X1.base.keep) (wpAny_items_cons (nmL (s := ⟨h1, _, _, _, _⟩) X1.ns hc1 (wpAny_items_nil ⟨fnA X1.base.keep, ?_⟩)))))
  refine SP.run (by omega) (by omega) hh0 X1.base.keep M.U1 fun s2 v ex2 hv => ?_
  obtain ⟨tv, rfl⟩ := hv
  have X2 := X1.ext ex2
  refine wpAny_items_cons (nmL X2.ns hc1 (wpAny_items_nil ⟨two_fits _ _, wpAny_items_nil ?_⟩))
  refine add_fin (s := s2) (e := (stamp c1, c1)) (X2.gd gB) (by omega) (by omega) hh0 X2.base.w X2.base.dw X2.p X2.qa X2.hp (by rw [hq, sizeLine_eq]; decide) fun s3 items3 q3 ex3 p3 qa3 hp3 pd3 => ?_
  have X3 := X2.que ex3 p3 qa3 hp3
  refine wpAny_execs_nil (wpAny_execs_nil ?_)
  -- for c2 in c2s
  have hl3 : LiI s3.heap l2 [c2] := by
    obtain ⟨its, ⟨o, e⟩, z⟩ := hl2
    exact ⟨its, ⟨o, X3.base.keep _ _ l87 e⟩, z⟩
  have nB : ∀ {a : Addr}, hB.get? a = none → l2 ≠ a := fun e z => by
    obtain ⟨its, ⟨o, e'⟩, _⟩ := hl2
    rw [← z, e'] at e; cases e
  obtain ⟨its2, lIs, lsz, lat⟩ := id hl3
  refine wpAny_execs_cons (wpAny_For (nmL X3.ns hc2 (wpAny_pyIter_list lIs.isList ?_)))
  have pu : ∀ b o, s3.heap.get? b = some o → (s3.heap.push { cls := .type "list_iterator", data := .fields #[.ref l2, .int 0 0] }).get? b = some o := fun b o e => Heap.get?_push_of_some _ e
  have ltL : ∀ {b o}, s3.heap.get? b = some o → s3.heap.objs.size ≠ b := fun e z => Nat.lt_irrefl _ (z ▸ Heap.lt_size e)
  have has3 : ∀ e, q3.has e ↔ e = (- stamp c1, c1) := fun e => (pd3.iff e).trans ⟨fun z => z.elim id fun ⟨i, hi, _⟩ => by omega, .inl⟩
  have D3 : Sd I hB (s3.heap.push { cls := .type "list_iterator", data := .fields #[.ref l2, .int 0 0] }) s3.heap.objs.size l2 0 [c2] := by
    refine ⟨⟨_, Heap.get?_push_size _ rfl, rfl, rfl⟩, hl3.keeps pu, X3.base.fresh, ?_, ?_, ?_, nB X3.f1, nB X3.f2, nB X3.f3, ?_⟩
    · obtain ⟨o, _, _, e, _⟩ := X3.ns; exact ltL e
    · obtain ⟨fm, ⟨o, _, _, e, _⟩, _⟩ := X3.c; exact ltL e
    · obtain ⟨o, e, _⟩ := X3.p; exact ltL e
    · obtain ⟨o, e⟩ := lIs; exact (ltL e).symm
  generalize s3.heap.objs.size = Ai at *
  have lm : left U ((St.put (fun _ => none) c1 fl1)) + 1 ≤ 4 * U.length := Nat.le_trans (left_relax U (fun _ => none) c1 fl1 M.U1 rfl) (left_le _ _)
  have nle : fl2.le ((St.put (fun _ => none) c1 fl1 c2).getD Fl.zero) = false := by
    by_cases e : c2 = c1
    · subst e; rw [St.put_self]; rfl
    · rw [St.put_ne _ _ e]; rfl
  have lm2 := left_relax U (St.put (fun _ => none) c1 fl1) c2 fl2 M.U2 nle
  refine codeAny_forLoop (fun n s' => ∃ i m items q st nD, n + i = 1 ∧ FS w mg mb hB I m items q st nD #[] [] s' ∧ Sd I hB s'.heap Ai l2 i [c2] ∧
      (i = 0 → st = St.put (fun _ => none) c1 fl1 ∧ (∀ e, q.has e ↔ e = (- stamp c1, c1)) ∧ nD = 1 ∧ q.n = 1) ∧
      (i = 1 → st = St.put (St.put (fun _ => none) c1 fl1) c2 (((St.put (fun _ => none) c1 fl1) c2).getD Fl.zero |>.or fl2) ∧ (∀ e, q.has e ↔ e = (- stamp c1, c1) ∨ e = (- stamp c2, c2)) ∧ nD = 2 ∧ q.n = 2)) ?_ 1
    ⟨0, m, items3, q3, _, 1, rfl, X3.ext (s' := ⟨s3.heap.push { cls := .type "list_iterator", data := .fields #[.ref l2, .int 0 0] }, _, _, _, _⟩) ⟨rfl, id, fun b o _ e => pu b o e⟩, D3, fun _ => ⟨rfl, has3, rfl, by rw [pd3.len, hq]⟩, fun z => nomatch z⟩
  clear X X1 X2 X3 D3 lIs lsz lat its2 pd3 has3 hl3 p3 qa3 hp3 ex3 hc1 hc2
  rintro n s0 ⟨i, m, items, q, st, nD, hni, X, D, c0, c1'⟩
  obtain ⟨its, lIs, lsz, lat⟩ := D.li
  obtain ⟨oa, ea, ca, da⟩ := id D.it
  cases n with
  | zero =>
    have i1 : i = 1 := by omega
    subst i1
    obtain ⟨rfl, hhas, rfl, hqn⟩ := c1' rfl
    refine wpAny_pyNext_list_end hh0 D.it lIs.isList (by rw [Array.getElem?_eq_none]; rw [lsz]; exact Nat.le_refl _) fun h' ex => ?_
    have X' := X.aside (s' := { s0 with heap := h' }) gB ea ca da (fun y t z => by cases z) D.fA e87 (fun b o hb e => ex b o hb e) id rfl
    refine wpAny_execs_nil (wpAny_execs_cons ?_)
    refine while_wp H M gB e87 SP PP hpl hd hu hh0 hcD X' (J.start H M hhas rfl) (by omega) (by omega) hU fun s5 m5 items5 q5 st5 nD5 cits5 cs5 X5 hres => ?_
    refine tail_wp gB e87 hd hu hh0 hcD X5 ?_ ?_ fun s6 D6 k6 b6 o6 t6 l6 f6 => h s6 D6 k6 b6 o6 t6 ?_ f6
    · rcases hres with ⟨_, rfl, _⟩ | ⟨_, rfl⟩ <;> simp
    · rcases hres with ⟨_, rfl, f, hf1, hf2⟩ | ⟨_, rfl⟩
      · intro i hi
        have : i = 0 := by simpa using hi
        subst this
        exact ⟨f, hf1, hf2⟩
      · intro i hi; cases hi
    · rcases hres with ⟨hm, rfl, _⟩ | ⟨hm, rfl⟩
      · rw [if_pos hm]; exact l6
      · rw [if_neg hm]; exact l6
  | succ n =>
    have i0 : i = 0 := by omega
    have n0 : n = 0 := by omega
    subst i0 n0
    obtain ⟨rfl, hhas, rfl, hqn⟩ := c0 rfl
    obtain ⟨tp, hp⟩ := lat 0 Nat.one_pos
    refine wpAny_pyNext_list_item D.it lIs.isList hp fun h' hit hsb => ?_
    have kA : ∀ b o, b ≠ Ai → s0.heap.get? b = some o → h'.get? b = some o := fun b o hb e => (hsb.2 b hb).trans e
    have X1 := X.aside (s' := { s0 with heap := h' }) gB ea ca da (fun y t z => by cases z) D.fA e87 kA id rfl
    have D1 : Sd I hB h' Ai l2 1 [c2] := ⟨hit, ⟨its, lIs.at fun o e => kA _ _ D.al e, lsz, lat⟩, D.fA, D.a1, D.a2, D.a3, D.l1, D.l2, D.l3, D.al⟩
    show wpAny _ _ (assign _ _ (.int c2 tp)) _ _ _
    refine assign_Name (X1.set (fun s2 x2 k2 X2 => ?_) rfl)
    have D2 := D1.move (h' := s2.heap) fun b o b1 _ _ e => k2 b o b1 e
    refine wpAny_execs_cons (wpAny_Assign_Name ?_)
    obtain ⟨fm, im, hfm⟩ := X2.c
    refine MethodCall_ (nmL X2.ns (X2.loc.at rfl) (getMethod_builtin im.typeIs PySem.F.plainAttrs_dict PySem.F.slot_dict_get PySem.F.type_dict_get im.noDict ?_))
    refine dget X2.n5 (nmL X2.ns (upd_self _ _ _) (wpAny_Constant_int ⟨c2, fm, is_int w _ _, im, ?_⟩))
    have hp0 : ∃ t0, (fm c2).getD (.int 0 s2.toks) = .int ((St.put (fun _ => none) c1 fl1 c2).getD Fl.zero).n t0 := by
      have := hfm c2
      cases hst : St.put (fun _ => none) c1 fl1 c2 with
      | none => rw [hst] at this; rw [this]; exact ⟨_, rfl⟩
      | some pf => rw [hst] at this; obtain ⟨t0, e⟩ := this; rw [e]; exact ⟨t0, rfl⟩
    obtain ⟨t0, hp0⟩ := hp0
    rw [hp0]
    refine (X2.ext (s' := ⟨_, _, _, s2.toks + 1 + 1, _⟩) ⟨rfl, id, fun _ _ _ e => e⟩).set (fun s3' x3 k3 X3 => ?_) rfl
    have D3 := D2.move (h' := s3'.heap) fun b o b1 _ _ e => k3 b o b1 e
    obtain ⟨fm5, im5, hfm5⟩ := X3.c
    refine wpAny_execs_cons (wpAny_Assign_Subscript (wpAny_BinOp (nmL X3.ns (upd_self _ _ _) (nmL X3.ns (X3.loc.at rfl) (PyProof.Rows.or_int (nmL (s := ⟨s3'.heap, _, _, _, _⟩) X3.ns (X3.loc.at rfl) (nmL (s := ⟨s3'.heap, _, _, _, _⟩) X3.ns rfl ?_)))))))
    refine setItem_le (s := ⟨s3'.heap, _, _, _, _⟩) im5 X3.le (by rw [sizeLine_eq]; decide) fun h6 im6 le6 sb6 => ?_
    have e2 : (2 : Int) = fl2.n := rfl
    rw [e2, b_or] at im6
    have X6 := X3.cst (tk' := s3'.toks + 1 + 1) sb6 (stM_put (st := St.put (fun _ => none) c1 fl1) (h := s3'.heap) hfm5 im6) le6
    have D6 := D3.move (h' := h6) fun b o _ b2 _ e => (sb6.2 b b2).trans e
    have Ia6 : PySem.W.InstAt h6 I.W (instObj 80 I.DW) 80 (some (dictOf [⟨I.hsh, .str "pq" I.tk, .ref I.P⟩] 1)) := ⟨X6.base.w, rfl, rfl, X6.base.dw⟩
    refine wpAny_execs_cons (wpAny_Try_except (wpAny_execs_cons (wpAny_Expr_any (MethodCall_ (nmL (s := ⟨h6, _, _, _, _⟩) X6.ns (X6.loc.at rfl) (methodInst (s := ⟨h6, _, _, _, _⟩) (X6.gd gB).X Ia6 (pgAdd w) (fAdd w) (isAdd w) rfl ?_))))))
    refine callWith_K (h₀ := h6) (X6.gd gB).X (kpAdd w) (wpAny_items_cons (wpAny_Tuple (wpAny_items_cons ?_)))
    refine wpAny_Call_NameR (nmL (s := ⟨h6, _, _, _, _⟩) X6.ns (X6.loc.at rfl) (callWith_F (fnA X6.base.keep) (wpAny_items_cons (nmL (s := ⟨h6, _, _, _, _⟩) X6.ns rfl (wpAny_items_nil ⟨fnA X6.base.keep, ?_⟩)))))
    refine SP.run (by omega) (by omega) hh0 X6.base.keep M.U2 fun s7 v ex7 hv7 => ?_
    obtain ⟨tv7, rfl⟩ := hv7
    have X7 := X6.ext ex7
    refine wpAny_items_cons (nmL X7.ns rfl (wpAny_items_nil ⟨two_fits _ _, wpAny_items_nil ?_⟩))
    refine add_fin (s := s7) (e := (stamp c2, c2)) (X7.gd gB) (by omega) (by omega) hh0 X7.base.w X7.base.dw X7.p X7.qa X7.hp (by rw [hqn, sizeLine_eq]; decide) fun s8 items8 q8 ex8 p8 qa8 hp8 pd8 => ?_
    have X8 := X7.que ex8 p8 qa8 hp8
    have D8 := D6.move (h' := s8.heap) fun b o _ _ b3 e => ex8.keep b o (by simpa using b3) (ex7.keep b o (by simp) e)
    refine wpAny_execs_nil (wpAny_execs_nil (wpAny_execs_nil ?_))
    refine ⟨0, Nat.one_pos, 1, _, _, _, _, _, rfl, X8, D8, (fun z => nomatch z), fun _ => ⟨rfl, fun e => (pd8.iff e).trans ?_, rfl, by rw [pd8.len, hqn]⟩⟩
    rw [hhas]
    exact Or.comm
end
end Mine
end

section
/-! S7 -/
open PySem PySem.W PySem.Calls PyProof.Rows
set_option maxRecDepth 100000
set_option maxHeartbeats 4000000
namespace Mine
theorem n_WL (w : World) : nsIn (KK w) mainGlobals "WorkList" = some (some (.ref 80)) := by kernel_rfl
theorem kp80 (w : World) : keepIn (KK w) (.ref 80) = true := by kernel_rfl

/-- the frame of _find_lcas while it is being set up -/
structure Pr (h0 : Heap) (L : Addr) (m : Str → Option Value) (lits : List (Addr × Obj)) (h : Heap) : Prop where
  k0 : ∀ b o, b ≠ 87 → h0.get? b = some o → h.get? b = some o
  ns : h.Ns L m
  lits : ∀ p ∈ lits, h.get? p.1 = some p.2 ∧ p.1 ≠ L ∧ h0.get? p.1 = none
  tab : TabOk 89 87 tabEs h
  fL : h0.get? L = none
section
variable {h0 h h' : Heap} {L : Addr} {m : Str → Option Value} {lits : List (Addr × Obj)}
theorem Pr.keep (x : Pr h0 L m lits h) (k : ∀ b o, h.get? b = some o → h'.get? b = some o) : Pr h0 L m lits h' :=
  ⟨fun b o hb e => k b o (x.k0 b o hb e), x.ns.keeps k, fun p hp => ⟨k _ _ (x.lits p hp).1, (x.lits p hp).2⟩, x.tab.keeps k, x.fL⟩
theorem Pr.loc (x : Pr h0 L m lits h) {m' : Str → Option Value} (ns : h'.Ns L m') (k : ∀ b o, b ≠ L → h.get? b = some o → h'.get? b = some o) : Pr h0 L m' lits h' := by
  obtain ⟨oL, _, _, eL, dL, _⟩ := x.ns
  exact ⟨fun b o hb e => k b o (fun z => by rw [z, x.fL] at e; cases e) (x.k0 b o hb e), ns, fun p hp => ⟨k _ _ (x.lits p hp).2.1 (x.lits p hp).1, (x.lits p hp).2⟩, x.tab.mv eL (by simp [kd, dL]) k, x.fL⟩
theorem Pr.fresh (x : Pr h0 L m lits h) (e87 : h0.get? 87 ≠ none) {a : Addr} (ha : h.get? a = none) : a ≠ L ∧ h0.get? a = none := by
  obtain ⟨oL, _, _, eL, dL, _⟩ := x.ns
  refine ⟨fun z => (by rw [z, eL] at ha; cases ha), ?_⟩
  cases q : h0.get? a with
  | none => rfl
  | some o =>
    by_cases e : a = 87
    · obtain ⟨_, ps, e1, _⟩ := x.tab
      rw [e, e1] at ha; cases ha
    · rw [x.k0 _ _ e q] at ha; cases ha
theorem Pr.add (x : Pr h0 L m lits h) (e87 : h0.get? 87 ≠ none) (k : ∀ b o, h.get? b = some o → h'.get? b = some o) {a : Addr} {o : Obj} (ha : h.get? a = none) (ho : h'.get? a = some o) : Pr h0 L m ((a, o) :: lits) h' := by
  have y := x.keep k
  refine ⟨y.k0, y.ns, fun p hp => ?_, y.tab, y.fL⟩
  rcases List.mem_cons.mp hp with rfl | hp
  · exact ⟨ho, x.fresh e87 ha⟩
  · exact y.lits p hp
theorem Pr.def (x : Pr h0 L m lits h) (e87 : h0.get? 87 ≠ none) (k : ∀ b o, b ≠ 87 → h.get? b = some o → h'.get? b = some o) (tab : TabOk 89 87 tabEs h') {f : Addr} {o : Obj} (hf : h.get? f = none) (ob : h'.get? f = some o) : Pr h0 L m ((f, o) :: lits) h' := by
  have hfL := x.fresh e87 hf
  obtain ⟨k0, ⟨oL, es, ep, eL, dL, rL⟩, ls, tb, fL'⟩ := x
  obtain ⟨_, ps, e1, _⟩ := tb
  have L87 : L ≠ 87 := ne_kd eL e1 (by simp [kd, dL, tabObj])
  refine ⟨fun b o hb e => k b o hb (k0 b o hb e), ⟨oL, es, ep, k _ _ L87 eL, dL, rL⟩, fun p hp => ?_, tab, fL'⟩
  rcases List.mem_cons.mp hp with rfl | hp
  · exact ⟨ob, hfL⟩
  · exact ⟨k _ _ (fun z => e87 (z ▸ (ls p hp).2.2)) (ls p hp).1, (ls p hp).2⟩
end
section
variable {w : World} {A : Around} {E : Value → Shared → Prop} {s : Shared} {mg mb : Str → Option Value}
variable {U : List Int} {par : Int → List Int} {stamp : Int → Int} {Le : Int → Int → Prop} {c1 c2 g mn : Int}

theorem Pr.set {h0 : Heap} {L : Addr} {m : Str → Option Value} {lits : List (Addr × Obj)} (x : Pr h0 L m lits s.heap) {n : Str} {v : Value} {Q : Unit → Shared → Prop}
    (h : ∀ s', Nx s s' → KpB L s s' → Pr h0 L (upd m n v) lits s'.heap → Q () s') (hl : (fE L).kindOf n = some .local := by rfl) :
    wpAny (model prg w) A (storeName (fE L) n v) Q E s :=
  stL x.ns (fun s' nx ns k => h s' nx k (x.loc ns k)) rfl rfl hl

theorem find3 {hB : Heap} {I : Ids} (H : Hist U par stamp Le) (M : Meet U stamp Le c1 c2 g I.mn) (gB : Gd w mg mb hB) (e87 : hB.get? 87 ≠ none) (SP : CallI w hB U I.fst (RSt stamp)) (PP : CallI w hB U I.fpar (RPar par)) (hpl : ∀ c ∈ U, (par c).length ≤ 1000)
    (hd : A.depth + 10 < recursionLimit) (hu : A.units + 70 < cLine) (hh0 : A.handled = none) (hU : U.length ≤ 1000)
    {m : Str → Option Value} {q : Qu} {l2 : Addr} {tc : Tok} {Q : Value → Shared → Prop}
    (hcD : I.cD = I.L + 1) (X : FS w mg mb hB I m #[] q (fun _ => none) 0 #[] [] s) (hq : q.n = 0) (hc1 : m "c1" = some (.int c1 tc)) (hc2 : m "c2s" = some (.ref l2)) (hl2 : LiI hB l2 [c2]) (l87 : l2 ≠ 87)
    (h : ∀ s' D, (∀ b o, b ≠ 87 → hB.get? b = some o → s'.heap.get? b = some o) → AllBare s'.gens → s'.os = I.oS → TabOk 89 87 tabEs s'.heap → LiI s'.heap D (if I.mn ≤ stamp g then [g] else []) → hB.get? D = none → Q (.ref D) s') :
    wpAny (model prg w) (A.deeper (fE I.L)) (execs ((bodyM (topSt 3)).drop 8) (fE I.L)) (fun fl s' => Q (match fl with | .ret v => v | _ => .none) s') (fun _ _ => False) s := by
  have hdd : (A.deeper (fE I.L)).depth + 8 < recursionLimit := by show A.depth + 1 + 8 < recursionLimit; omega
  have huu : (A.deeper (fE I.L)).units + 60 < cLine := by show A.units + 3 + 60 < cLine; omega
  have hhh : (A.deeper (fE I.L)).handled = none := hh0
  exact find2 H M gB e87 SP PP hpl hdd huu hhh hU hcD X hq hc1 hc2 hl2 l87 fun s' D k b o t l f => h s' D k b o t l f

theorem find_wp (H : Hist U par stamp Le) (M : Meet U stamp Le c1 c2 g mn) (hpl : ∀ c ∈ U, (par c).length ≤ 1000) (hU : U.length ≤ 1000)
    {fpar fst l2 : Addr} {tc tmn : Tok} {pos : List Value} {kw : List (Str × Value)} {Q : Value → Shared → Prop}
    (gd : Gd w mg mb s.heap) (tab : TabOk 89 87 tabEs s.heap) (hG : AllBare s.gens) (SP : CallI w s.heap U fst (RSt stamp)) (PP : CallI w s.heap U fpar (RPar par))
    (hd : A.depth + 10 < recursionLimit) (hu : A.units + 70 < cLine) (hh0 : A.handled = none) (hl2 : LiI s.heap l2 [c2])
    (hb : BindsTo s fdFind ⟨pos, kw⟩ [("lookup_parents", .ref fpar), ("c1", .int c1 tc), ("c2s", .ref l2), ("lookup_stamp", .ref fst), ("min_stamp", .int mn tmn), ("shallows", .none)])
    (h : ∀ s' D, Ext [87] s s' → TabOk 89 87 tabEs s'.heap → LiI s'.heap D (if mn ≤ stamp g then [g] else []) → s.heap.get? D = none → Q (.ref D) s') :
    wpAny (model prg w) A (call (.ref 90) pos kw) Q E s := by
  have e87 : s.heap.get? 87 ≠ none := by
    obtain ⟨_, ps, e, _⟩ := tab
    rw [e]; exact fun z => nomatch z
  refine callFnC (f := 90) (fd := fdFind) (body := bodyM (topSt 3)) (by omega) (gd.X 90 _ (k90 w)) rfl rfl (codeRec_of gd.X (c89 w)) gd.NL rfl hb (locs rfl) (fun env s1 he x1 => ?_) rfl rfl rfl
  have he' : env = fE s.heap.objs.size := he
  subst he'
  clear he
  have fL : s.heap.get? s.heap.objs.size = none := fresh_size _
  have os1 : s1.os = s.os ∧ s1.gens = s.gens := by
    obtain ⟨h', tk, rfl, _⟩ := x1.done
    exact ⟨rfl, rfl⟩
  obtain ⟨oc, ec, dc⟩ := x1.cell "_DNC" (s.heap.objs.size + 1) rfl
  have P1 : Pr s.heap s.heap.objs.size _ [(s.heap.objs.size + 1, oc)] s1.heap := ⟨fun b o _ e => x1.toInCall.keep b o e, x1.toInCall.ns, fun p hp => by
    rw [List.mem_singleton.mp hp]
    refine ⟨ec, Nat.ne_of_gt (Nat.lt_succ_self _), ?_⟩
    cases q : s.heap.get? (s.heap.objs.size + 1) with
    | none => rfl
    | some o => exact absurd (Heap.lt_size q) (Nat.not_lt_of_le (Nat.le_succ _)), tab.keeps x1.toInCall.keep, fL⟩
  have hv : ∀ p ∈ [((Str.ofString "lookup_parents"), Value.ref fpar), ("c1", .int c1 tc), ("c2s", .ref l2), ("lookup_stamp", .ref fst), ("min_stamp", .int mn tmn), ("shallows", .none)], (bindL (fE s.heap.objs.size).kindOf [("lookup_parents", .ref fpar), ("c1", .int c1 tc), ("c2s", .ref l2), ("lookup_stamp", .ref fst), ("min_stamp", .int mn tmn), ("shallows", .none)] fun _ => none) p.1 = some p.2 := by
    intro p hp
    simp only [List.mem_cons, List.not_mem_nil, or_false] at hp
    rcases hp with rfl | rfl | rfl | rfl | rfl | rfl <;> rfl
  generalize bindL (fE s.heap.objs.size).kindOf [("lookup_parents", .ref fpar), ("c1", .int c1 tc), ("c2s", .ref l2), ("lookup_stamp", .ref fst), ("min_stamp", .int mn tmn), ("shallows", .none)] (fun _ => none) = m0 at P1 hv
  have hpar : m0 "lookup_parents" = some (.ref fpar) := hv _ (.head _)
  have hc1 : m0 "c1" = some (.int c1 tc) := hv _ (.tail _ (.head _))
  have hc2 : m0 "c2s" = some (.ref l2) := hv _ (.tail _ (.tail _ (.head _)))
  have hst : m0 "lookup_stamp" = some (.ref fst) := hv _ (.tail _ (.tail _ (.tail _ (.head _))))
  have hmn : m0 "min_stamp" = some (.int mn tmn) := hv _ (.tail _ (.tail _ (.tail _ (.tail _ (.head _)))))
  have hsl : m0 "shallows" = some .none := hv _ (.tail _ (.tail _ (.tail _ (.tail _ (.tail _ (.head _))))))
  clear hv x1 ec
  obtain ⟨os1, gs1⟩ := os1
  generalize hLL : s.heap.objs.size = L at *
  -- cands = []
  refine wpAny_execs_cons (wpAny_Assign_Name (wpAny_List (wpAny_items_nil ⟨Nat.zero_le _, ?_⟩)))
  have P1' := P1.add (h' := s1.heap.push { cls := .type "list", data := .seq ([] : List Value).toArray }) e87 (fun b o e => Heap.get?_push_of_some _ e) (fresh_size _) (Heap.get?_push_size _ rfl)
  refine P1'.set (s := { s1 with heap := s1.heap.push _ }) fun s2 x2 k2 P2 => ?_
  generalize s1.heap.objs.size = CA at *
  -- cstates = {}
  refine wpAny_execs_cons (wpAny_Assign_Name (wpAny_Dict_empty ?_))
  have P2' := P2.add (h' := s2.heap.push { cls := .type "dict", data := .dict #[] }) e87 (fun b o e => Heap.get?_push_of_some _ e) (fresh_size _) (Heap.get?_push_size _ rfl)
  have nSys : (s2.heap.objs.size == sysModules) = false := by
    have gd2 : Gd w mg mb s2.heap := gd.kpT fun b o h1 _ e => P2.k0 b o h1 e
    obtain ⟨o, e, _⟩ := gd2.M.2
    have := Heap.lt_size e
    rw [beq_eq_false_iff_ne]
    intro z
    rw [z] at this
    exact absurd this (by decide)
  refine P2'.set (s := { s2 with heap := s2.heap.push _ }) fun s3 x3 k3 P3 => ?_
  generalize s2.heap.objs.size = C at *
  refine wpAny_execs_cons (wpAny_Assign_Name (wpAny_Constant_int ?_))
  refine P3.set (s := { s3 with toks := s3.toks + 1 }) fun s4 x4 k4 P4 => ?_
  refine wpAny_execs_cons (wpAny_Assign_Name (wpAny_Constant_int ?_))
  refine P4.set (s := { s4 with toks := s4.toks + 1 }) fun s5 x5 k5 P5 => ?_
  refine wpAny_execs_cons (wpAny_Assign_Name (wpAny_Constant_int ?_))
  have oC5 := P5.lits (L + 1, oc) (.tail _ (.tail _ (.head _)))
  have oD5 := P5.lits (C, _) (.head _)
  have oA5 := P5.lits (CA, _) (.tail _ (.head _))
  refine wpAny_storeName_cell (c := L + 1) (v₀ := none) rfl rfl rfl ⟨oc, oC5.1, dc⟩ fun h6 c6 sb6 => ?_
  obtain ⟨oc6, ec6, dc6⟩ := c6
  have kdc : kd oc.data = 4 := by rw [dc]; rfl
  have P6 : Pr s.heap L (upd (upd (upd (upd m0 "cands" (.ref CA)) "cstates" (.ref C)) "_ANC_OF_1" (.int 1 s3.toks)) "_ANC_OF_2" (.int 2 s4.toks)) [(L + 1, oc6), (C, { cls := .type "dict", data := .dict #[] }), (CA, { cls := .type "list", data := .seq ([] : List Value).toArray })] h6 := by
    obtain ⟨oL, es, ep, eL, dL, rL⟩ := P5.ns
    have k6 : ∀ b o, b ≠ L + 1 → s5.heap.get? b = some o → h6.get? b = some o := fun b o hb e => (sb6.2 b hb).trans e
    refine ⟨fun b o hb e => k6 b o (fun z => by rw [z, oC5.2.2] at e; cases e) (P5.k0 b o hb e), ⟨oL, es, ep, k6 _ _ oC5.2.1.symm eL, dL, rL⟩, fun p hp => ?_, P5.tab.mv oC5.1 (by rw [kdc]; decide) k6, P5.fL⟩
    simp only [List.mem_cons, List.not_mem_nil, or_false] at hp
    rcases hp with rfl | rfl | rfl
    · exact ⟨ec6, oC5.2⟩
    · exact ⟨k6 _ _ (ne_kd oD5.1 oC5.1 (by rw [kdc]; simp [kd])) oD5.1, oD5.2⟩
    · exact ⟨k6 _ _ (ne_kd oA5.1 oC5.1 (by rw [kdc]; simp [kd])) oA5.1, oA5.2⟩
  clear oC5 oD5 oA5
  refine wpAny_execs_cons (wpAny_Assign_Name (wpAny_Constant_int ?_))
  refine P6.set (s := ⟨h6, _, _, _, _⟩) fun s7 x7 k7 P7 => ?_
  -- def _has_candidates
  have gdOf : ∀ {m : Str → Option Value} {lits : List (Addr × Obj)} {h : Heap}, Pr s.heap L m lits h → Gd w mg mb h := fun p => gd.kpT fun b o h1 _ e => p.k0 b o h1 e
  refine wpAny_execs_cons (nestDef_K rfl rfl rfl ?_)
  refine mkDef (gdOf P7) P7.tab (.head _) tabPosH (clos := [("_DNC", L + 1)]) rfl rfl rfl fun HF c' ctv doc pm s8 x8 k8 hf8 tab8 ob8 cr8 => ?_
  have P8' := P7.def e87 k8 tab8 hf8 ob8
  refine P8'.set fun s9 x9 k9 P9 => ?_
  have cr9 : s9.heap.CodeRec (.ref c') hcQual := by
    obtain ⟨oL, _, _, eL, dL, _⟩ := P8'.ns
    exact CodeRec.mv eL (by simp [kd, dL]) k9 cr8
  -- wlst = WorkList()
  refine wpAny_execs_cons (wpAny_Assign_Name (wpAny_Call_NameR (nmG (gdOf P9) (n_WL w) (callWith_K0 (gdOf P9).X (kp80 w) ?_))))
  refine new_wl (gdOf P9) (by show A.depth + 1 + 2 < _; omega) hh0 fun s10 W DW PQ tk hsh x10 k10 hW10 hD10 hP10 fW fD fP => ?_
  have P10 := P9.keep k10
  have gW := P9.fresh e87 fW
  have gD := P9.fresh e87 fD
  have gP := P9.fresh e87 fP
  refine P10.set fun s11 x11 k11 P11 => ?_
  have hW := k11 _ _ gW.1 hW10
  have hDW := k11 _ _ gD.1 hD10
  have hPQ : s11.heap.IsList PQ #[] := by
    obtain ⟨o, e, r⟩ := hP10
    exact ⟨o, k11 _ _ gP.1 e, r⟩
  have cr11 : s11.heap.CodeRec (.ref c') hcQual := by
    obtain ⟨oL, _, _, eL, dL, _⟩ := P10.ns
    exact CodeRec.mv eL (by simp [kd, dL]) k11 (cr9.keeps k10)
  have lHF := P11.lits (HF, _) (.head _)
  have lCell := P11.lits (L + 1, _) (.tail _ (.head _))
  have lC := P11.lits (C, _) (.tail _ (.tail _ (.head _)))
  have lCA := P11.lits (CA, _) (.tail _ (.tail _ (.tail _ (.head _))))
  have gens11 : s11.gens = s.gens := x11.gens.trans (x10.gens.trans (x9.gens.trans (x8.gens.trans (x7.gens.trans (x5.gens.trans (x4.gens.trans (x3.gens.trans (x2.gens.trans gs1))))))))
  have os11 : s11.os = s.os := x11.os.trans (x10.os.trans (x9.os.trans (x8.os.trans (x7.os.trans (x5.os.trans (x4.os.trans (x3.os.trans (x2.os.trans os1))))))))
  have XF : FS w mg mb s.heap ⟨L, C, DW, W, PQ, CA, L + 1, HF, c', tk, tmn, s3.toks, s4.toks, s5.toks, s5.toks + 1, hsh, doc, pm, ctv, fpar, fst, mn, s.os⟩ (upd (upd (upd (upd (upd (upd (upd m0 "cands" (.ref CA)) "cstates" (.ref C)) "_ANC_OF_1" (.int 1 s3.toks)) "_ANC_OF_2" (.int 2 s4.toks)) "_LCA" (.int 8 (s5.toks + 1))) "_has_candidates" (.ref HF)) "wlst" (.ref W)) #[] ⟨0, fun _ => (0, 0)⟩ (fun _ => none) 0 #[] [] s11 := by
    refine ⟨⟨P11.k0, by rw [gens11]; exact hG, os11, P11.tab, hW, hDW, ⟨oc6, lCell.1, dc6⟩, lHF.1, cr11⟩, P11.ns, ?_, hPQ, ⟨rfl, fun i hi => absurd hi (Nat.not_lt_zero _)⟩, fun i _ hi => absurd hi (Nat.not_lt_zero _),
      ⟨fun _ => none, ⟨_, #[], 0, lC.1, ⟨rfl, rfl, rfl⟩, rfl, fun e he => absurd he (by simp), fun _ => rfl⟩, fun _ => rfl⟩, ?_, ⟨0, lCA.1⟩, ⟨rfl, fun i hi => absurd hi (Nat.not_lt_zero _)⟩, lC.2.1.symm, gD.1.symm, ?_, ?_, nSys, fL, lC.2.2, gP.2, lCA.2.2⟩
    · intro p hp
      simp only [Ids.vars, List.mem_cons, List.not_mem_nil, or_false] at hp
      rcases hp with rfl | rfl | rfl | rfl | rfl | rfl | rfl | rfl | rfl | rfl | rfl
      · exact hpar
      · exact hst
      · exact hmn
      · exact hsl
      all_goals rfl
    · intro o es ep e d
      rw [lC.1] at e; cases e; cases d; exact Nat.le_refl _
    · intro z
      have := (P9.lits (C, _) (.tail _ (.tail _ (.head _)))).1
      rw [show C = DW from z, fD] at this; cases this
    · intro z
      have := (P9.lits (CA, _) (.tail _ (.tail _ (.tail _ (.head _))))).1
      rw [show CA = PQ from z.symm, fP] at this; cases this
  have l87 : l2 ≠ 87 := by
    obtain ⟨its, ⟨o, e⟩, _⟩ := hl2
    obtain ⟨_, ps, e1, _⟩ := tab
    exact ne_kd e e1 (by simp [kd])
  have hc1' : (upd (upd (upd (upd (upd (upd (upd m0 "cands" (.ref CA)) "cstates" (.ref C)) "_ANC_OF_1" (.int 1 s3.toks)) "_ANC_OF_2" (.int 2 s4.toks)) "_LCA" (.int 8 (s5.toks + 1))) "_has_candidates" (.ref HF)) "wlst" (.ref W)) "c1" = some (.int c1 tc) := hc1
  have hc2' : (upd (upd (upd (upd (upd (upd (upd m0 "cands" (.ref CA)) "cstates" (.ref C)) "_ANC_OF_1" (.int 1 s3.toks)) "_ANC_OF_2" (.int 2 s4.toks)) "_LCA" (.int 8 (s5.toks + 1))) "_has_candidates" (.ref HF)) "wlst" (.ref W)) "c2s" = some (.ref l2) := hc2
  have R := find3 (A := A) (Q := Q) H M gd e87 SP PP hpl hd hu hh0 hU rfl XF rfl hc1' hc2' hl2 l87 fun s' D k b o t l f => h s' D ⟨o, fun _ => b, fun b' o' hb' e => k b' o' (by simpa using hb') e⟩ t l f
  dsimp only at R
  dsimp only
  show wpAny (model prg w) (A.deeper (fE L)) (execs ((bodyM (topSt 3)).drop 8) (fE L)) _ _ _
  refine wpAny_mono R (fun f s' q => ?_) fun _ _ q => q
  cases f <;> exact q
end
end Mine
end

section
/-! C1 -/
open PySem PySem.W PySem.Calls PyProof.Rows
set_option maxRecDepth 100000
set_option maxHeartbeats 4000000
namespace Mine
theorem n_find (w : World) : nsIn (KK w) mainGlobals "_find_lcas" = some (some (.ref 90)) := by kernel_rfl
theorem n_merge (w : World) : nsIn (KK w) mainGlobals "find_merge_base" = some (some (.ref 97)) := by kernel_rfl
theorem n_len (w : World) : nsIn (KK w) mainGlobals "len" = some none := by kernel_rfl
theorem n_list (w : World) : nsIn (KK w) mainGlobals "list" = some none := by kernel_rfl
theorem b_len : bootBuiltins "len" = some (.builtin "len") := by rfl
theorem b_list : bootBuiltins "list" = some (.type "list") := by rfl
theorem kp90 (w : World) : keepIn (KK w) (.ref 90) = true := by kernel_rfl
theorem kp97 (w : World) : keepIn (KK w) (.ref 97) = true := by kernel_rfl
theorem k85 (w : World) : (KK w).lookup 85 = some { cls := .type "tuple", data := .seq #[.int 0 381, .none] 0 } := by kernel_rfl

theorem LiI.two {h : Heap} {l : Addr} {a b : Int} (x : LiI h l [a, b]) : ∃ t u, h.PlainList l #[.int a t, .int b u] := by
  obtain ⟨its, hp, hs, hv⟩ := x
  obtain ⟨t, h0⟩ := hv 0 (by simp)
  obtain ⟨u, h1⟩ := hv 1 (by simp)
  refine ⟨t, u, ?_⟩
  have : its = #[.int a t, .int b u] := by
    apply Array.ext
    · simpa using hs
    · intro i h2 h3
      have : i = 0 ∨ i = 1 := by simp at h3; omega
      rcases this with rfl | rfl
      · rw [Array.getElem?_eq_getElem h2] at h0; simpa using h0
      · rw [Array.getElem?_eq_getElem h2] at h1; simpa using h1
  rw [← this]; exact hp
theorem LiI.one {h : Heap} {l : Addr} {a : Int} (x : LiI h l [a]) : ∃ t, h.PlainList l #[.int a t] := by
  obtain ⟨its, hp, hs, hv⟩ := x
  obtain ⟨t, h0⟩ := hv 0 (by simp)
  refine ⟨t, ?_⟩
  have : its = #[.int a t] := by
    apply Array.ext
    · simpa using hs
    · intro i h2 h3
      have : i = 0 := by simp at h3; omega
      subst this
      rw [Array.getElem?_eq_getElem h2] at h0; simpa using h0
  rw [← this]; exact hp
theorem LiI.of1 {h : Heap} {l : Addr} {a : Int} {t : Tok} (x : h.PlainList l #[.int a t]) : LiI h l [a] :=
  ⟨_, x, rfl, fun i hi => by
    have : i = 0 := by simpa using hi
    subst this; exact ⟨t, rfl⟩⟩
theorem LiI.three {h : Heap} {l : Addr} {a b c : Int} (x : LiI h l [a, b, c]) : ∃ t u v, h.PlainList l #[.int a t, .int b u, .int c v] := by
  obtain ⟨its, hp, hs, hv⟩ := x
  obtain ⟨t, h0⟩ := hv 0 (by simp)
  obtain ⟨u, h1⟩ := hv 1 (by simp)
  obtain ⟨v, h2⟩ := hv 2 (by simp)
  refine ⟨t, u, v, ?_⟩
  have : its = #[.int a t, .int b u, .int c v] := by
    apply Array.ext
    · simpa using hs
    · intro i h3 h4
      have : i = 0 ∨ i = 1 ∨ i = 2 := by simp at h4; omega
      rcases this with rfl | rfl | rfl
      · rw [Array.getElem?_eq_getElem h3] at h0; simpa using h0
      · rw [Array.getElem?_eq_getElem h3] at h1; simpa using h1
      · rw [Array.getElem?_eq_getElem h3] at h2; simpa using h2
  rw [← this]; exact hp

section
variable {w : World} {A : Around} {E : Value → Shared → Prop} {s : Shared} {mg mb : Str → Option Value}
variable {U : List Int} {par : Int → List Int} {stamp : Int → Int} {Le : Int → Int → Prop} {c1 c2 g mn : Int}

theorem CallI.mono {hB h : Heap} {f : Addr} {R : Int → Shared → Value → Shared → Prop} (x : CallI w hB U f R) (k : ∀ b o, b ≠ 87 → hB.get? b = some o → h.get? b = some o) : CallI w h U f R := by
  obtain ⟨⟨oc, od, fd, sl, e⟩, ne, run⟩ := x
  exact ⟨⟨oc, od, fd, sl, k _ _ ne e⟩, ne, fun hd hu hh k' hn q => run hd hu hh (fun b o hb e => k' b o hb (k b o hb e)) hn q⟩

theorem bind_find (gd : Gd w mg mb s.heap) {a b c d : Value} : BindsTo s fdFind ⟨[a, b, c, d], [("shallows", .none)]⟩ [("lookup_parents", a), ("c1", b), ("c2s", c), ("lookup_stamp", d), ("min_stamp", .int 0 381), ("shallows", .none)] :=
  binds_K gd.X rfl (k85 w) rfl (k := _) rfl rfl
theorem bind_find2 (gd : Gd w mg mb s.heap) {a b c d e : Value} : BindsTo s fdFind ⟨[a, b, c, d], [("min_stamp", e), ("shallows", .none)]⟩ [("lookup_parents", a), ("c1", b), ("c2s", c), ("lookup_stamp", d), ("min_stamp", e), ("shallows", .none)] :=
  binds_K gd.X rfl (k85 w) rfl (k := _) rfl rfl
end
end Mine
end

section
/-! C2 -/
open PySem PySem.W PySem.Calls PyProof.Rows
set_option maxRecDepth 100000
set_option maxHeartbeats 4000000
namespace Mine
section
variable {w : World} {A : Around} {E : Value → Shared → Prop} {s : Shared} {mg mb : Str → Option Value}
variable {U : List Int} {par : Int → List Int} {stamp : Int → Int} {Le : Int → Int → Prop} {c1 c2 g mn : Int}

theorem KpB.old {L : Addr} {s s' : Shared} (k : KpB L s s') {h0 : Heap} (k0 : ∀ b o, h0.get? b = some o → s.heap.get? b = some o) (hL : h0.get? L = none) : ∀ b o, h0.get? b = some o → s'.heap.get? b = some o :=
  fun b o e => k b o (fun z => by rw [z, hL] at e; cases e) (k0 b o e)

theorem Ext.ns {s s' : Shared} (ex : Ext [87] s s') {L : Addr} {m : Str → Option Value} (ns : s.heap.Ns L m) (hL : L ≠ 87) : s'.heap.Ns L m := by
  obtain ⟨o, es, ep, e, d, r⟩ := ns
  exact ⟨o, es, ep, ex.keep _ _ (fun z => hL (List.mem_singleton.mp z)) e, d, r⟩
theorem tab_ne {h : Heap} (t : TabOk 89 87 tabEs h) {L : Addr} (hL : h.get? L = none) : L ≠ 87 := fun z => by
  obtain ⟨_, ps, e1, _⟩ := t
  rw [z, e1] at hL; cases hL
theorem pick2 (a b : Value) : slicePick #[a, b] (some 1) none none = #[b] := by
  have e : sliceRange (sliceBounds (some 1) none none 2).1 (sliceBounds (some 1) none none 2).2.1 (sliceBounds (some 1) none none 2).2.2 = [1] := by decide +kernel
  show ((sliceRange (sliceBounds (some 1) none none 2).1 (sliceBounds (some 1) none none 2).2.1 (sliceBounds (some 1) none none 2).2.2).filterMap (#[a, b][·]?)).toArray = #[b]
  rw [e]; rfl
theorem pick3 (a b c : Value) : slicePick #[a, b, c] (some 1) none none = #[b, c] := by
  have e : sliceRange (sliceBounds (some 1) none none 3).1 (sliceBounds (some 1) none none 3).2.1 (sliceBounds (some 1) none none 3).2.2 = [1, 2] := by decide +kernel
  show ((sliceRange (sliceBounds (some 1) none none 3).1 (sliceBounds (some 1) none none 3).2.1 (sliceBounds (some 1) none none 3).2.2).filterMap (#[a, b, c][·]?)).toArray = #[b, c]
  rw [e]; rfl
theorem pickAll (a : Value) : slicePick #[a] none none none = #[a] := by
  have e : sliceRange (sliceBounds none none none 1).1 (sliceBounds none none none 1).2.1 (sliceBounds none none none 1).2.2 = [0] := by decide +kernel
  show ((sliceRange (sliceBounds none none none 1).1 (sliceBounds none none none 1).2.1 (sliceBounds none none none 1).2.2).filterMap (#[a][·]?)).toArray = #[a]
  rw [e]; rfl
theorem slice1 {l : Addr} {value : Expr} {p p1 pos : Pos} {k : Nat} {env : Env} {items : Array Value} {Q : Value → Shared → Prop} (hl : ∀ {Q' : Value → Shared → Prop}, Q' (.ref l) s → wpAny (model prg w) A (eval value env) Q' E s) (hi : s.heap.IsList l items) (hz : items.size ≤ 1000)
    (h : ∀ s' D, Nx s s' → Kp s s' → s'.heap.PlainList D (slicePick items (some 1) none none) → s.heap.get? D = none → Q (.ref D) s') (ht : ∀ o r, letTemporaryGo value o r = pure () := by intro _ _; rfl) :
    wpAny (model prg w) A (eval (.Subscript value (.Slice (some (.Constant (.int 1) k p1)) none none p) pos) env) Q E s := by
  refine wpAny_Subscript_list_slice (hl (wpAny_evalPart_some (wpAny_Constant_int (wpAny_evalPart_none ⟨l, items, some 1, none, rfl, hi, by rw [sizeLine_eq]; omega, .int _ _, .none, ?_⟩)))) ht
  have e1 : (s.heap.push { cls := .type "slice", data := .fields #[.int 1 s.toks, .none, .none] }).objs.size = s.heap.objs.size + 1 := Heap.size_push ..
  refine h _ _ ⟨rfl, rfl⟩ (fun b o e => Heap.get?_push_of_some _ (Heap.get?_push_of_some _ e)) ⟨0, ?_⟩ ?_
  · have := Heap.get?_push_size (s.heap.push { cls := .type "slice", data := .fields #[.int 1 s.toks, .none, .none] }) (o := { cls := .type "list", data := .seq (slicePick items (some 1) none none) }) rfl
    rw [e1] at this
    exact this
  · cases q : s.heap.get? (s.heap.objs.size + 1) with
    | none => rfl
    | some o => exact absurd (Heap.lt_size q) (Nat.not_lt_of_le (Nat.le_succ _))

theorem merge_wp (H : Hist U par stamp Le) (M : Meet U stamp Le c1 c2 g 0) (hself : c1 = c2 → g = c1) (h0 : 0 ≤ stamp g) (hpl : ∀ c ∈ U, (par c).length ≤ 1000) (hU : U.length ≤ 1000)
    {fpar fst lC : Addr} {Q : Value → Shared → Prop}
    (gd : Gd w mg mb s.heap) (tab : TabOk 89 87 tabEs s.heap) (hG : AllBare s.gens) (SP : CallI w s.heap U fst (RSt stamp)) (PP : CallI w s.heap U fpar (RPar par))
    (hd : A.depth + 12 < recursionLimit) (hu : A.units + 80 < cLine) (hh0 : A.handled = none) (hl : LiI s.heap lC [c1, c2])
    (h : ∀ s' D, Ext [87] s s' → TabOk 89 87 tabEs s'.heap → LiI s'.heap D [g] → Q (.ref D) s') :
    wpAny (model prg w) A (call (.ref 97) [.ref fpar, .ref fst, .none, .ref lC]) Q E s := by
  refine callFn (f := 97) (body := bodyM (topSt 4)) (binds := [("lookup_parents", .ref fpar), ("lookup_stamp", .ref fst), ("shallows", .none), ("commit_ids", .ref lC)]) (by omega) (gd.X 97 _ (k97 w)) rfl rfl (codeRec_of gd.X (c96 w)) gd.NL (BindsTo.of_eq rfl) (by decide) (locs rfl) (fun L s₁ hL x₁ k₁ ns₁ => ?_) rfl rfl rfl
  obtain ⟨t1, t2, hp⟩ := hl.two
  have hp1 := hp.at (h' := s₁.heap) fun o e => k₁ _ _ e
  refine wpAny_execs_cons (wpAny_If (wpAny_isTrue_Not (wpAny_isTrue_value (nmL ns₁ rfl (wpAny_truthy_list hp1.isList (by show (2:Int) < 2 ^ 63; decide) (itF rfl (wpAny_execs_nil ?_)))))))
  refine wpAny_execs_cons (wpAny_Assign_Name (Subscript_ (nmL (s := ⟨s₁.heap, _, _, _, _⟩) ns₁ rfl (wpAny_Constant_int (subscriptTail_builtin (s := ⟨s₁.heap, _, _, _, _⟩) (typeIs_list hp1.isList rfl) slot_list_getitem.lookup (wpAny_getItem_list (s := ⟨s₁.heap, _, _, _, _⟩) hp1.isList (by decide) (by decide) rfl ?_))))))
  refine stL (s := ⟨s₁.heap, _, _, _, _⟩) ns₁ fun s₂ x₂ ns₂ k₂ => ?_
  have kk2 : Kp s s₂ := KpB.old k₂ k₁ hL
  have hp2 := hp.at (h' := s₂.heap) fun o e => kk2 _ _ e
  have gd2 := gd.keeps kk2
  refine wpAny_execs_cons (wpAny_If (wpAny_isTrue_Not (wpAny_isTrue_Compare1 ?_)))
  refine wpAny_Call_NameR (nmB gd2 (n_len w) b_len (by decide) (PyProof.Rows.callWith_builtin1 (wpAny_items_cons (nmL ns₂ rfl (wpAny_items_nil (call_len_list hp2.isList (by show (2:Int) < 2 ^ 63; decide) ?_))))))
  refine wpAny_Constant_int (PyProof.Rows.gt_int (wpAny_truthy_bool (itF rfl (wpAny_execs_nil ?_))))
  -- c2s
  refine wpAny_execs_cons (wpAny_Assign_Name (wpAny_Call_NameR (nmB (s := ⟨s₂.heap, _, _, _, _⟩) gd2 (n_list w) b_list (by decide) (PyProof.Rows.callWith_type1 (wpAny_items_cons ?_)))))
  refine slice1 (s := ⟨s₂.heap, _, _, _, _⟩) (fun q => nmL (s := ⟨s₂.heap, _, _, _, _⟩) ns₂ rfl q) hp2.isList (by show 2 ≤ 1000; decide) fun s₃ D3 x₃ k₃ hD3 f3 => ?_
  have hD3' : s₃.heap.PlainList D3 #[.int c2 t2] := by rw [pick2] at hD3; exact hD3
  refine wpAny_items_nil ?_
  obtain ⟨n3, e3⟩ := hD3'
  refine call_list_seq D3 (.inl rfl) e3 rfl rfl (fun h4 c4 k4 e4 => ?_) (by show 1 ≤ sizeLine; rw [sizeLine_eq]; decide)
  have kk4 : ∀ b o, s.heap.get? b = some o → h4.get? b = some o := fun b o e => k4 b o (k₃ b o (kk2 b o e))
  have ns₄ : h4.Ns L _ := (ns₂.keeps k₃).keeps k4
  have f4 : s.heap.get? s₃.heap.objs.size = none := by
    cases q : s.heap.get? s₃.heap.objs.size with
    | none => rfl
    | some o => exact absurd (Heap.lt_size (k₃ _ _ (kk2 _ _ q))) (Nat.lt_irrefl _)
  generalize s₃.heap.objs.size = l2 at *
  have l2L : l2 ≠ L := fun z => by
    obtain ⟨o, _, _, e, d, _⟩ := ns₄
    rw [← z, e4] at e; cases e; cases d
  refine stL (s := { s₃ with heap := h4 }) ns₄ fun s₅ x₅ ns₅ k₅ => ?_
  have kk5 : Kp s s₅ := KpB.old k₅ kk4 hL
  have gd5 := gd.keeps kk5
  have hl2 : s₅.heap.PlainList l2 #[.int c2 t2] := ⟨c4, k₅ _ _ l2L e4⟩
  have nx5 : Nx s s₅ := ⟨x₅.gens.trans (x₃.gens.trans (x₂.gens.trans x₁.gens)), x₅.os.trans (x₃.os.trans (x₂.os.trans x₁.os))⟩
  have hG5 : AllBare s₅.gens := by rw [nx5.gens]; exact hG
  refine wpAny_execs_cons (wpAny_If (wpAny_isTrue_Compare1 (nmL ns₅ rfl (nmL ns₅ (upd_self _ _ _) (PyProof.Rows.in_list_ints (vs := [.int c2 t2]) (ns := [c2]) hl2.isList (.cons _ _ .nil) (wpAny_truthy_bool ?_))))))
  by_cases hc : c2 = c1
  · refine itT (by simp [hc]) ?_
    refine wpAny_execs_cons (wpAny_Return_some (wpAny_List (wpAny_items_cons (nmL ns₅ rfl (wpAny_items_nil ⟨by show 1 ≤ sizeLine; rw [sizeLine_eq]; decide, ?_⟩)))))
    have pu : ∀ b o, s₅.heap.get? b = some o → (s₅.heap.push { cls := .type "list", data := .seq ([Value.int c1 t1] : List Value).toArray }).get? b = some o := fun b o e => Heap.get?_push_of_some _ e
    refine h _ _ ⟨nx5.os, fun _ => hG5, fun b o _ e => pu b o (kk5 b o e)⟩ ((tab.keeps kk5).keeps pu) ?_
    rw [hself hc.symm]
    exact LiI.of1 ⟨0, Heap.get?_push_size _ rfl⟩
  · refine itF (by simp [hc]) (wpAny_execs_nil ?_)
    refine wpAny_execs_cons (wpAny_Assign_Name (wpAny_Call_Name_kw (nmG gd5 (n_find w) ?_)))
    refine callWith_KW (h₀ := s₅.heap) gd5.X (kp90 w) rfl (wpAny_items_cons (nmL ns₅ rfl (wpAny_items_cons (nmL ns₅ rfl (wpAny_items_cons (nmL ns₅ (upd_self _ _ _) (wpAny_items_cons (nmL ns₅ rfl (wpAny_items_nil (kws_cons (nmL ns₅ rfl (kws_nil ⟨gd5.X, ?_⟩))))))))))))
    refine find_wp (mn := 0) H M hpl hU gd5 (tab.keeps kk5) hG5 (SP.mono fun b o _ e => kk5 b o e) (PP.mono fun b o _ e => kk5 b o e) (by show A.depth + 1 + 10 < recursionLimit; omega) (by show A.units + 3 + 70 < cLine; omega) hh0 (LiI.of1 hl2) (bind_find gd5) fun s₆ D6 ex6 tab6 li6 f6 => ?_
    have ns₆ := ex6.ns ns₅ (tab_ne tab hL)
    rw [if_pos h0] at li6
    refine stL ns₆ fun s₇ x₇ ns₇ k₇ => ?_
    refine wpAny_execs_cons (wpAny_Return_some (nmL ns₇ (upd_self _ _ _) ?_))
    have D6L : D6 ≠ L := fun z => by
      obtain ⟨o, _, _, e, _⟩ := ns₅
      rw [z, e] at f6; cases f6
    obtain ⟨oL, _, _, eL, dL, _⟩ := ns₆
    refine h s₇ D6 ⟨x₇.os.trans (ex6.os.trans nx5.os), fun _ => by rw [x₇.gens]; exact ex6.bare hG5, fun b o hb e => k₇ b o (fun z => by rw [z, hL] at e; cases e) (ex6.keep b o hb (kk5 b o e))⟩ (tab6.mv eL (by simp [kd, dL]) k₇) ?_
    obtain ⟨its, hpl6, z⟩ := li6
    exact ⟨its, hpl6.at fun o e => k₇ _ _ D6L e, z⟩
end
end Mine
end

section
/-! C3 -/
open PySem PySem.W PySem.Calls PyProof.Rows
set_option maxRecDepth 100000
set_option maxHeartbeats 4000000
namespace Mine
section
variable {w : World} {A : Around} {E : Value → Shared → Prop} {s : Shared} {mg mb : Str → Option Value}
variable {U : List Int} {par : Int → List Int} {stamp : Int → Int} {Le : Int → Int → Prop} {c1 c2 g mn : Int}

theorem eq_one {l k : Addr} {x y : Int} {t u : Tok} {Q : Value → Shared → Prop} (ha : s.heap.IsList l #[.int x t]) (hb : s.heap.IsList k #[.int y u]) (hu : A.units < cLine) (h : Q (.bool (x == y)) s) :
    wpAny (model prg w) A (compareOp .Eq (.ref l) (.ref k)) Q E s := by
  refine SeqAt.eq_listAt (e := fun _ => x == y) ha hb rfl hu (fun j h1 h2 => ?_) ?_
  · have : j = 0 := by simpa using h1
    subst this
    exact SeqAt.EqAt.int_int x t y u
  · have : (List.range (#[Value.int x t]).size).all (fun _ => x == y) = (x == y) := by simp
    rw [this]; exact h
theorem eq_none {l k : Addr} {y : Int} {u : Tok} {Q : Value → Shared → Prop} (ha : s.heap.IsList l #[]) (hb : s.heap.IsList k #[.int y u]) (hu : A.units < cLine) (h : Q (.bool false) s) :
    wpAny (model prg w) A (compareOp .Eq (.ref l) (.ref k)) Q E s :=
  SeqAt.eq_list_lengthsAt ha hb rfl hu h

theorem LiI.nil {h : Heap} {l : Addr} (x : LiI h l []) : h.PlainList l #[] := by
  obtain ⟨its, hp, hs, _⟩ := x
  rw [← Array.eq_empty_of_size_eq_zero hs]; exact hp

theorem ff_wp (H : Hist U par stamp Le) (M : Meet U stamp Le c1 c2 g (stamp c1)) (hpl : ∀ c ∈ U, (par c).length ≤ 1000) (hU : U.length ≤ 1000)
    {fpar fst : Addr} {t1 t2 : Tok} {Q : Value → Shared → Prop}
    (gd : Gd w mg mb s.heap) (tab : TabOk 89 87 tabEs s.heap) (hG : AllBare s.gens) (SP : CallI w s.heap U fst (RSt stamp)) (PP : CallI w s.heap U fpar (RPar par))
    (hd : A.depth + 12 < recursionLimit) (hu : A.units + 80 < cLine) (hh0 : A.handled = none)
    (h : ∀ s' b, Ext [87] s s' → TabOk 89 87 tabEs s'.heap → (b = true ↔ (c1 = c2 ∨ (stamp c1 ≤ stamp g ∧ g = c1))) → Q (.bool b) s') :
    wpAny (model prg w) A (call (.ref 111) [.ref fpar, .ref fst, .none, .int c1 t1, .int c2 t2]) Q E s := by
  refine callFn (f := 111) (body := bodyM (topSt 6)) (binds := [("lookup_parents", .ref fpar), ("lookup_stamp", .ref fst), ("shallows", .none), ("c1", .int c1 t1), ("c2", .int c2 t2)]) (by omega) (gd.X 111 _ (k111 w)) rfl rfl (codeRec_of gd.X (c110 w)) gd.NL (BindsTo.of_eq rfl) (by decide) (locs rfl) (fun L s₁ hL x₁ k₁ ns₁ => ?_) rfl rfl rfl
  refine wpAny_execs_cons (wpAny_If (wpAny_isTrue_Compare1 (nmL ns₁ rfl (nmL ns₁ rfl (eq_int (wpAny_truthy_bool ?_))))))
  by_cases hc : c1 = c2
  · refine itT (by simp [hc]) (wpAny_execs_cons (wpAny_Return_some (wpAny_Constant_bool ?_)))
    exact h _ true ⟨x₁.os, fun b => by rw [x₁.gens]; exact b, fun b o _ e => k₁ b o e⟩ (tab.keeps k₁) ⟨fun _ => .inl hc, fun _ => rfl⟩
  · refine itF (by simp [hc]) (wpAny_execs_nil ?_)
    have SP1 := SP.mono (h := s₁.heap) fun b o _ e => k₁ b o e
    refine wpAny_execs_cons (wpAny_Try_except (wpAny_execs_cons (wpAny_Assign_Name ?_)))
    refine wpAny_Call_NameR (nmL ns₁ rfl (callWith_F SP1.fn (wpAny_items_cons (nmL ns₁ rfl (wpAny_items_nil ⟨SP1.fn, ?_⟩)))))
    refine SP1.run (by show A.depth + 1 + 5 < recursionLimit; omega) (by show A.units + 3 + 30 < cLine; omega) hh0 (fun b o _ e => e) M.U1 fun s₂ v ex2 hv => ?_
    obtain ⟨tv, rfl⟩ := hv
    have k2 : Kp s₁ s₂ := fun b o e => ex2.keep b o (by simp) e
    refine stL (ns₁.keeps k2) fun s₃ x₃ ns₃ k₃ => ?_
    have kk3 : Kp s s₃ := KpB.old k₃ (fun b o e => k2 b o (k₁ b o e)) hL
    have gd3 := gd.keeps kk3
    have hG3 : AllBare s₃.gens := by rw [x₃.gens]; exact ex2.bare (by rw [x₁.gens]; exact hG)
    have os3 : s₃.os = s.os := x₃.os.trans (ex2.os.trans x₁.os)
    refine wpAny_execs_nil (wpAny_execs_nil ?_)
    refine wpAny_execs_cons (wpAny_Assign_Name (wpAny_Call_Name_kw (nmG gd3 (n_find w) ?_)))
    refine callWith_KW (h₀ := s₃.heap) gd3.X (kp90 w) rfl (wpAny_items_cons (nmL ns₃ rfl (wpAny_items_cons (nmL ns₃ rfl (wpAny_items_cons ?_)))))
    refine wpAny_List (wpAny_items_cons (nmL ns₃ rfl (wpAny_items_nil ⟨by show 1 ≤ sizeLine; rw [sizeLine_eq]; decide, ?_⟩)))
    have pu : ∀ b o, s₃.heap.get? b = some o → (s₃.heap.push { cls := .type "list", data := .seq ([Value.int c2 t2] : List Value).toArray }).get? b = some o := fun b o e => Heap.get?_push_of_some _ e
    have ns₄ : (s₃.heap.push { cls := .type "list", data := .seq ([Value.int c2 t2] : List Value).toArray }).Ns L _ := ns₃.keeps pu
    have kk4 : ∀ b o, s.heap.get? b = some o → (s₃.heap.push { cls := .type "list", data := .seq ([Value.int c2 t2] : List Value).toArray }).get? b = some o := fun b o e => pu b o (kk3 b o e)
    have gd4 : Gd w mg mb (s₃.heap.push { cls := .type "list", data := .seq ([Value.int c2 t2] : List Value).toArray }) := gd3.keeps pu
    have hl4 : LiI (s₃.heap.push { cls := .type "list", data := .seq ([Value.int c2 t2] : List Value).toArray }) s₃.heap.objs.size [c2] := LiI.of1 (t := t2) ⟨0, Heap.get?_push_size _ rfl⟩
    generalize s₃.heap.push { cls := .type "list", data := .seq ([Value.int c2 t2] : List Value).toArray } = H4 at *
    refine wpAny_items_cons (nmL (s := ⟨H4, _, _, _, _⟩) ns₄ rfl (wpAny_items_nil (kws_cons (nmL (s := ⟨H4, _, _, _, _⟩) ns₄ (upd_self _ _ _) (kws_cons (nmL (s := ⟨H4, _, _, _, _⟩) ns₄ rfl (kws_nil ⟨gd4.X, ?_⟩)))))))
    refine find_wp (s := ⟨H4, _, _, _, _⟩) H M hpl hU gd4 (tab.keeps kk4) hG3 (SP.mono fun b o _ e => kk4 b o e) (PP.mono fun b o _ e => kk4 b o e) (by show A.depth + 1 + 10 < recursionLimit; omega) (by show A.units + 3 + 70 < cLine; omega) hh0 hl4 (bind_find2 gd4) fun s₆ D6 ex6 tab6 li6 f6 => ?_
    have ns₆ := ex6.ns ns₄ (tab_ne tab hL)
    refine stL ns₆ fun s₇ x₇ ns₇ k₇ => ?_
    have D6L : D6 ≠ L := fun z => by
      obtain ⟨o, _, _, e, _⟩ := ns₄
      rw [show L = D6 from z.symm] at e
      rw [f6] at e; cases e
    obtain ⟨oL, _, _, eL, dL, _⟩ := ns₆
    have tab7 := tab6.mv eL (by simp [kd, dL]) k₇
    have li7 : LiI s₇.heap D6 (if stamp c1 ≤ stamp g then [g] else []) := by
      obtain ⟨its, hpl6, z⟩ := li6
      exact ⟨its, hpl6.at fun o e => k₇ _ _ D6L e, z⟩
    have ex7 : ∀ b o, b ∉ [(87 : Addr)] → s.heap.get? b = some o → s₇.heap.get? b = some o := fun b o hb e => k₇ b o (fun z => by rw [z, hL] at e; cases e) (ex6.keep b o hb (kk4 b o e))
    refine wpAny_execs_cons (wpAny_Return_some (wpAny_Compare1 (nmL ns₇ (upd_self _ _ _) (wpAny_List (wpAny_items_cons (nmL ns₇ rfl (wpAny_items_nil ⟨by show 1 ≤ sizeLine; rw [sizeLine_eq]; decide, ?_⟩)))))))
    have pu7 : ∀ b o, s₇.heap.get? b = some o → (s₇.heap.push { cls := .type "list", data := .seq ([Value.int c1 t1] : List Value).toArray }).get? b = some o := fun b o e => Heap.get?_push_of_some _ e
    have hb8 : (s₇.heap.push { cls := .type "list", data := .seq ([Value.int c1 t1] : List Value).toArray }).IsList s₇.heap.objs.size #[.int c1 t1] := ⟨_, Heap.get?_push_size _ rfl, rfl, _, rfl⟩
    have fin : ∀ b, (b = true ↔ (c1 = c2 ∨ (stamp c1 ≤ stamp g ∧ g = c1))) → Q (.bool b) { s₇ with heap := s₇.heap.push { cls := .type "list", data := .seq ([Value.int c1 t1] : List Value).toArray } } := fun b hb =>
      h _ b ⟨x₇.os.trans (ex6.os.trans os3), fun _ => by show AllBare s₇.gens; rw [x₇.gens]; exact ex6.bare hG3, fun b o hb e => pu7 b o (ex7 b o hb e)⟩ (tab7.keeps pu7) hb
    by_cases hm : stamp c1 ≤ stamp g
    · rw [if_pos hm] at li7
      obtain ⟨t, ht⟩ := li7.one
      refine eq_one (s := { s₇ with heap := _ }) (ht.at fun o e => pu7 _ _ e).isList hb8 (by show A.units + 3 < cLine; omega) (fin _ ?_)
      simp [hc, hm]
    · rw [if_neg hm] at li7
      refine eq_none (s := { s₇ with heap := _ }) (li7.nil.at fun o e => pu7 _ _ e).isList hb8 (by show A.units + 3 < cLine; omega) (fin _ ?_)
      simp [hc, hm]
end
end Mine
end

section
/-! C4 -/
open PySem PySem.W PySem.Calls PyProof.Rows
set_option maxRecDepth 100000
set_option maxHeartbeats 4000000
namespace Mine
/-- all but the addresses of X as it was -/
abbrev Kx (X : List Addr) (h h' : Heap) : Prop := ∀ b o, b ∉ X → h.get? b = some o → h'.get? b = some o

/-- a frame that calls _find_lcas: what it keeps of the state in which it was entered -/
structure Fo (s0 : Shared) (L : Addr) (m : Str → Option Value) (s' : Shared) : Prop where
  k : ∀ b o, b ≠ 87 → s0.heap.get? b = some o → s'.heap.get? b = some o
  bare : AllBare s'.gens
  os : s'.os = s0.os
  tab : TabOk 89 87 tabEs s'.heap
  ns : s'.heap.Ns L m
  fL : s0.heap.get? L = none
  L87 : L ≠ 87
  t0 : s0.heap.get? 87 ≠ none
section
variable {w : World} {A : Around} {E : Value → Shared → Prop} {s s0 s' : Shared} {mg mb : Str → Option Value} {L : Addr} {m m' : Str → Option Value}

theorem Fo.gd (x : Fo s0 L m s) (gd : Gd w mg mb s0.heap) : Gd w mg mb s.heap := gd.kpT fun b o h _ e => x.k b o h e
theorem Fo.kp (x : Fo s0 L m s) (k : Kp s s') (b : AllBare s'.gens) (o : s'.os = s.os) : Fo s0 L m s' :=
  ⟨fun b o hb e => k b o (x.k b o hb e), b, o.trans x.os, x.tab.keeps k, x.ns.keeps k, x.fL, x.L87, x.t0⟩
theorem Fo.nx (x : Fo s0 L m s) (k : Kp s s') (nx : Nx s s') : Fo s0 L m s' := x.kp k (by rw [nx.gens]; exact x.bare) nx.os
theorem Fo.ext (x : Fo s0 L m s) (e : Ext [87] s s') (t : TabOk 89 87 tabEs s'.heap) : Fo s0 L m s' :=
  ⟨fun b o hb h => e.keep b o (by simpa using hb) (x.k b o hb h), e.bare x.bare, e.os.trans x.os, t, e.ns x.ns x.L87, x.fL, x.L87, x.t0⟩
theorem Fo.loc (x : Fo s0 L m s) (nx : Nx s s') (ns : s'.heap.Ns L m') (k : KpB L s s') : Fo s0 L m' s' := by
  obtain ⟨oL, _, _, eL, dL, _⟩ := x.ns
  exact ⟨fun b o hb h => k b o (fun z => by rw [z, x.fL] at h; cases h) (x.k b o hb h), by rw [nx.gens]; exact x.bare, nx.os.trans x.os, x.tab.mv eL (by simp [kd, dL]) k, ns, x.fL, x.L87, x.t0⟩
theorem Fo.fresh (x : Fo s0 L m s) {a : Addr} (h : s.heap.get? a = none) : s0.heap.get? a = none ∧ a ≠ L ∧ a ≠ 87 := by
  obtain ⟨oL, _, _, eL, _⟩ := x.ns
  refine ⟨?_, fun z => (by rw [z, eL] at h; cases h), tab_ne x.tab h⟩
  cases q : s0.heap.get? a with
  | none => rfl
  | some o => rw [x.k a o (tab_ne x.tab h) q] at h; cases h
/-- something of the frame's own changes -/
theorem Fo.own (x : Fo s0 L m s) {a : Addr} {oa : Obj} (ha : s.heap.get? a = some oa) (hk : kd oa.data ≠ 3 ∨ (kd oa.data = 3 ∧ oa.cls = .type "list_iterator" ∧ ∃ l i t, oa.data = .fields #[.ref l, .int i t])) (h0 : s0.heap.get? a = none) (hL : a ≠ L) (h89 : s0.heap.get? 89 ≠ none) (k : Kx [a] s.heap s'.heap) (nx : Nx s s') : Fo s0 L m s' := by
  have k' : ∀ b o, b ≠ a → s.heap.get? b = some o → s'.heap.get? b = some o := fun b o hb e => k b o (by simpa using hb) e
  have a87 : a ≠ 87 := fun z => x.t0 (z ▸ h0)
  have a89 : a ≠ 89 := fun z => h89 (z ▸ h0)
  have tab : TabOk 89 87 tabEs s'.heap := by
    rcases hk with hk | ⟨_, hc, l, i, t, hd⟩
    · exact x.tab.mv ha hk k'
    · obtain ⟨⟨o, vs, file, tf, flags, tg, inF, text, tt, e1, e2, e3, r⟩, ps, e, tr, z⟩ := x.tab
      refine ⟨⟨o, vs, file, tf, flags, tg, inF, text, tt, k' _ _ a89.symm e1, e2, e3, r⟩, ps, k' _ _ a87.symm e, tr, fun q hq => (z q hq).imp id fun ⟨c', h1, ⟨c, oc, vs', t', f1, f2, f3, f4⟩⟩ => ⟨c', h1, ⟨c, oc, vs', t', f1, k' _ _ (fun zz => ?_) f2, f3, f4⟩⟩⟩
      subst zz
      rw [ha] at f2; cases f2
      rw [hd] at f3; cases f3
      cases f4
  obtain ⟨oL, es, ep, eL, dL, rL⟩ := x.ns
  exact ⟨fun b o hb h => k' b o (fun z => by rw [z, h0] at h; cases h) (x.k b o hb h), by rw [nx.gens]; exact x.bare, nx.os.trans x.os, tab, ⟨oL, es, ep, k' _ _ hL.symm eL, dL, rL⟩, x.fL, x.L87, x.t0⟩

theorem extend1 {l b : Addr} {v : Value} {Q : Value → Shared → Prop} (hl : s.heap.PlainList l #[]) (hb : s.heap.PlainList b #[v])
    (h : ∀ h', h'.PlainList l #[v] → Heap.SameBut l s.heap h' → Q .none { s with heap := h' }) : wpAny (model prg w) A (call (.builtin "list.extend") [.ref l, .ref b]) Q E s := by
  obtain ⟨n, e⟩ := hl
  obtain ⟨n2, e2⟩ := hb
  refine call_meets PySem.F.slot_list_extend ⟨_, e, rfl⟩ PySem.F.entry_list_extend (PySem.F.args_list_extend_2 _ _) (PySem.AutoSeq1.list_extend_list_list_0 l #[] n b #[v] n2 (by simp) (Nat.zero_le _) (by show 0 + 1 ≤ _; rw [sizeLine_eq]; decide)) ⟨e, e2, ?_⟩
  have hh := get?_update_seq e (· ++ #[v])
  have ee : (#[] : Array Value) ++ #[v] = #[v] := by simp
  rw [ee] at hh
  exact h _ ⟨_, hh⟩ (Heap.SameBut.update ..)
end
end Mine
end

section
/-! C5 -/
open PySem PySem.W PySem.Calls PyProof.Rows
set_option maxRecDepth 100000
set_option maxHeartbeats 4000000
namespace Mine
def oFor : Stmt := (bodyM (topSt 5)).getD 4 noSt
def oIn : Stmt := (forBody oFor).getD 1 noSt
def oE (L : Addr) : Env := callEnv fdOcto L 104
/-- the list x at address a, apart from the frame's own name table -/
structure Ol (s0 : Shared) (L : Addr) (a : Addr) (its : Array Value) (s : Shared) : Prop where
  p : s.heap.PlainList a its
  nL : a ≠ L
  n87 : a ≠ 87
  f0 : s0.heap.get? a = none
section
variable {w : World} {A : Around} {E : Value → Shared → Prop} {s s0 s' : Shared} {mg mb : Str → Option Value} {L : Addr} {m m' : Str → Option Value}
variable {U : List Int} {par : Int → List Int} {stamp : Int → Int} {Le : Int → Int → Prop} {c1 c2 g mn : Int}
theorem Ol.kx {a : Addr} {its : Array Value} {X : List Addr} (x : Ol s0 L a its s) (k : Kx X s.heap s'.heap) (h : a ∉ X) : Ol s0 L a its s' :=
  ⟨x.p.at fun o e => k _ _ h e, x.nL, x.n87, x.f0⟩
theorem Ol.kp {a : Addr} {its : Array Value} (x : Ol s0 L a its s) (k : Kp s s') : Ol s0 L a its s' := ⟨x.p.at fun o e => k _ _ e, x.nL, x.n87, x.f0⟩
theorem Ol.loc {a : Addr} {its : Array Value} (x : Ol s0 L a its s) (k : KpB L s s') : Ol s0 L a its s' := ⟨x.p.at fun o e => k _ _ x.nL e, x.nL, x.n87, x.f0⟩
theorem Ol.ext {a : Addr} {its : Array Value} (x : Ol s0 L a its s) (k : Ext [87] s s') : Ol s0 L a its s' := ⟨x.p.at fun o e => k.keep _ _ (by simpa using x.n87) e, x.nL, x.n87, x.f0⟩

/-- what a frame needs of the callables -/
structure Cb (w : World) (mg mb : Str → Option Value) (s0 : Shared) (U : List Int) (par : Int → List Int) (stamp : Int → Int) (fpar fst : Addr) : Prop where
  gd : Gd w mg mb s0.heap
  SP : CallI w s0.heap U fst (RSt stamp)
  PP : CallI w s0.heap U fpar (RPar par)
  pl : ∀ c ∈ U, (par c).length ≤ 1000
  hU : U.length ≤ 1000
  e89 : s0.heap.get? 89 ≠ none

/-- the inner loop of the octopus: `lcas` is one commit x; next_lcas becomes [z] -/
theorem octo_in (H : Hist U par stamp Le) {fpar fst l k : Addr} {x y z : Int} {ty tx : Tok} {Q : Flow → Shared → Prop} (C : Cb w mg mb s0 U par stamp fpar fst) (M : Meet U stamp Le y x z 0) (h0 : 0 ≤ stamp z)
    (hd : A.depth + 12 < recursionLimit) (hu : A.units + 80 < cLine) (hh0 : A.handled = none)
    (F : Fo s0 L m s) (v1 : m "lookup_parents" = some (.ref fpar)) (v2 : m "lookup_stamp" = some (.ref fst)) (v3 : m "shallows" = some .none) (v4 : m "lcas" = some (.ref l)) (v5 : m "next_lcas" = some (.ref k)) (v6 : m "cmt" = some (.int y ty))
    (hl : Ol s0 L l #[.int x tx] s) (hk : Ol s0 L k #[] s) (hlk : l ≠ k)
    (h : ∀ s' m' t, Fo s0 L m' s' → (∀ n : Str, n ≠ "ca" → n ≠ "res" → m' n = m n) → Ol s0 L k #[.int z t] s' → Kx [L, 87, k] s.heap s'.heap → Q .next s') :
    wpAny (model prg w) A (exec oIn (oE L)) Q E s := by
  refine wpAny_For (nmL F.ns v4 (wpAny_pyIter_list hl.p.isList ?_))
  have pu : ∀ b o, s.heap.get? b = some o → (s.heap.push { cls := .type "list_iterator", data := .fields #[.ref l, .int 0 0] }).get? b = some o := fun b o e => Heap.get?_push_of_some _ e
  have F1 : Fo s0 L m { s with heap := s.heap.push { cls := .type "list_iterator", data := .fields #[.ref l, .int 0 0] } } := F.nx pu ⟨rfl, rfl⟩
  have fI := F.fresh (fresh_size s.heap)
  have lI : ∀ {b o}, s.heap.get? b = some o → b ≠ s.heap.objs.size := fun e => Nat.ne_of_lt (Heap.lt_size e)
  have kI : k ≠ s.heap.objs.size := by obtain ⟨n, e⟩ := hk.p; exact lI e
  have lI' : l ≠ s.heap.objs.size := by obtain ⟨n, e⟩ := hl.p; exact lI e
  refine codeAny_forLoop (fun n s' => ∃ m' its, (∀ q : Str, q ≠ "ca" → q ≠ "res" → m' q = m q) ∧ Fo s0 L m' s' ∧ Ol s0 L l #[.int x tx] s' ∧ Ol s0 L k its s' ∧ Kx [L, 87, k] s.heap s'.heap ∧
      ((n = 1 ∧ its = #[] ∧ s'.heap.IsListIter s.heap.objs.size l 0) ∨ (n = 0 ∧ (∃ t, its = #[.int z t]) ∧ s'.heap.IsListIter s.heap.objs.size l 1))) ?_ 1
    ⟨m, #[], fun _ _ _ => rfl, F1, hl.kp pu, hk.kp pu, fun b o _ e => pu b o e, .inl ⟨rfl, rfl, ⟨_, Heap.get?_push_size _ rfl, rfl, rfl⟩⟩⟩
  rintro n s1 ⟨m1, its, hm1, F, hl, hk, kx, hcase⟩
  have w1 := (hm1 "lookup_parents" (by decide) (by decide)).trans v1
  have w2 := (hm1 "lookup_stamp" (by decide) (by decide)).trans v2
  have w3 := (hm1 "shallows" (by decide) (by decide)).trans v3
  have w5 := (hm1 "next_lcas" (by decide) (by decide)).trans v5
  have w6 := (hm1 "cmt" (by decide) (by decide)).trans v6
  rcases hcase with ⟨rfl, rfl, hit⟩ | ⟨rfl, ⟨t, rfl⟩, hit⟩
  · refine wpAny_pyNext_list_item hit hl.p.isList rfl fun h' hit2 hsb => ?_
    obtain ⟨oa, ea, ca, da⟩ := id hit
    have kxI : Kx [s.heap.objs.size] s1.heap h' := fun b o hb e => (hsb.2 b (by simpa using hb)).trans e
    have F2 : Fo s0 L m1 { s1 with heap := h' } := F.own ea (.inr ⟨by rw [da]; rfl, ca, _, _, _, da⟩) fI.1 fI.2.1 C.e89 kxI ⟨rfl, rfl⟩
    have hl2 : Ol s0 L l #[.int x tx] { s1 with heap := h' } := hl.kx kxI (by simpa using lI')
    have hk2 : Ol s0 L k #[] { s1 with heap := h' } := hk.kx kxI (by simpa using kI)
    refine assign_Name (stL F2.ns fun s3 x3 ns3 k3 => ?_)
    have F3 := F2.loc x3 ns3 k3
    have gd3 := F3.gd C.gd
    refine wpAny_execs_cons (wpAny_Assign_Name (wpAny_Call_Name_kw (nmG gd3 (n_find w) ?_)))
    refine callWith_KW (h₀ := s3.heap) gd3.X (kp90 w) rfl (wpAny_items_cons (nmL ns3 w1 (wpAny_items_cons (nmL ns3 w6 (wpAny_items_cons ?_)))))
    refine wpAny_List (wpAny_items_cons (nmL ns3 (upd_self _ _ _) (wpAny_items_nil ⟨by show 1 ≤ sizeLine; rw [sizeLine_eq]; decide, ?_⟩)))
    have pu3 : ∀ b o, s3.heap.get? b = some o → (s3.heap.push { cls := .type "list", data := .seq ([Value.int x tx] : List Value).toArray }).get? b = some o := fun b o e => Heap.get?_push_of_some _ e
    have F4 : Fo s0 L _ { s3 with heap := s3.heap.push { cls := .type "list", data := .seq ([Value.int x tx] : List Value).toArray } } := F3.nx pu3 ⟨rfl, rfl⟩
    have gd4 := F4.gd C.gd
    refine wpAny_items_cons (nmL (s := { s3 with heap := s3.heap.push _ }) F4.ns w2 (wpAny_items_nil (kws_cons (nmL (s := { s3 with heap := s3.heap.push _ }) F4.ns w3 (kws_nil ⟨gd4.X, ?_⟩)))))
    refine find_wp (s := { s3 with heap := s3.heap.push _ }) (mn := 0) H M C.pl C.hU gd4 F4.tab F4.bare (C.SP.mono F4.k) (C.PP.mono F4.k) (by omega) (by omega) hh0 (LiI.of1 (t := tx) ⟨0, Heap.get?_push_size _ rfl⟩) (bind_find gd4) fun s5 D5 ex5 tab5 li5 f5 => ?_
    rw [if_pos h0] at li5
    have F5 := F4.ext ex5 tab5
    have fD := F4.fresh f5
    obtain ⟨t5, hD5⟩ := li5.one
    have hk5 := ((hk2.loc k3).kp (s' := { s3 with heap := s3.heap.push { cls := .type "list", data := .seq ([Value.int x tx] : List Value).toArray } }) pu3).ext ex5
    have hl5 := ((hl2.loc k3).kp (s' := { s3 with heap := s3.heap.push { cls := .type "list", data := .seq ([Value.int x tx] : List Value).toArray } }) pu3).ext ex5
    have D5L : D5 ≠ L := fD.2.1
    refine stL F5.ns fun s6 x6 ns6 k6 => ?_
    have F6 := F5.loc x6 ns6 k6
    have hk6 := hk5.loc k6
    have hl6 := hl5.loc k6
    have hD6 : s6.heap.PlainList D5 #[.int z t5] := hD5.at fun o e => k6 _ _ D5L e
    have it6 : s6.heap.IsListIter s.heap.objs.size l 1 := by
      obtain ⟨o, e, r⟩ := hit2
      exact ⟨o, k6 _ _ fI.2.1 (ex5.keep _ _ (by simpa using fI.2.2) (pu3 _ _ (k3 _ _ fI.2.1 e))), r⟩
    have kx6 : Kx [L, 87, s.heap.objs.size] s1.heap s6.heap := fun b o hb e => by
      simp only [List.mem_cons, List.not_mem_nil, or_false, not_or] at hb
      exact k6 _ _ hb.1 (ex5.keep _ _ (by simpa using hb.2.1) (pu3 _ _ (k3 _ _ hb.1 (kxI _ _ (by simpa using hb.2.2) e))))
    refine wpAny_execs_cons (wpAny_Expr_any (MethodCall_ (nmL ns6 (show _ = _ from w5) ?_)))
    obtain ⟨nk, ek⟩ := id hk6.p
    refine getMethod_builtin ⟨_, ek, rfl⟩ PySem.F.plainAttrs_list PySem.F.slot_list_extend PySem.F.type_list_extend (fun a e => by cases e; exact ⟨_, ek, rfl⟩) ?_
    refine callWith_method1 (wpAny_items_cons (nmL ns6 (upd_self _ _ _) (wpAny_items_nil ?_)))
    refine extend1 hk6.p hD6 fun h7 hk7 sb7 => ?_
    have kx7 : Kx [k] s6.heap h7 := fun b o hb e => (sb7.2 b (by simpa using hb)).trans e
    have F7 : Fo s0 L _ { s6 with heap := h7 } := F6.own ek (.inl (by simp [kd])) hk.f0 hk.nL C.e89 kx7 ⟨rfl, rfl⟩
    refine wpAny_execs_nil ⟨0, Nat.one_pos, _, #[.int z t5], fun q h1 h2 => ?_, F7, hl6.kx kx7 (by simpa using hlk), ⟨hk7, hk.nL, hk.n87, hk.f0⟩, fun b o hb e => ?_, .inr ⟨rfl, ⟨t5, rfl⟩, ?_⟩⟩
    · rw [upd_ne _ _ h2, upd_ne _ _ h1]; exact hm1 q h1 h2
    · simp only [List.mem_cons, List.not_mem_nil, or_false, not_or] at hb
      exact kx7 _ _ (by simpa using hb.2.2) (kx6 _ _ (by simpa using ⟨hb.1, hb.2.1, lI e⟩) (kx b o (by simpa using hb) e))
    · obtain ⟨o, e, r⟩ := it6
      exact ⟨o, kx7 _ _ (by simpa using kI.symm) e, r⟩
  · refine wpAny_pyNext_list_end hh0 hit hl.p.isList rfl fun h' ex => ?_
    obtain ⟨oa, ea, ca, da⟩ := id hit
    have kxI : Kx [s.heap.objs.size] s1.heap h' := fun b o hb e => ex b o (by simpa using hb) e
    have F2 : Fo s0 L m1 { s1 with heap := h' } := F.own ea (.inr ⟨by rw [da]; rfl, ca, _, _, _, da⟩) fI.1 fI.2.1 C.e89 kxI ⟨rfl, rfl⟩
    refine wpAny_execs_nil (h _ _ t F2 hm1 (hk.kx kxI (by simpa using kI)) fun b o hb e => kxI b o (by simpa using lI e) (kx b o hb e))
end
end Mine
end

section
/-! C6 -/
open PySem PySem.W PySem.Calls PyProof.Rows
set_option maxRecDepth 100000
set_option maxHeartbeats 4000000
namespace Mine
section
variable {w : World} {A : Around} {E : Value → Shared → Prop} {s s0 s' : Shared} {mg mb : Str → Option Value} {L : Addr} {m m' : Str → Option Value}
variable {U : List Int} {par : Int → List Int} {stamp : Int → Int} {Le : Int → Int → Prop} {c1 c2 g mn : Int}

theorem sliceAll {l : Addr} {value : Expr} {p pos : Pos} {env : Env} {items : Array Value} {Q : Value → Shared → Prop} (hl : ∀ {Q' : Value → Shared → Prop}, Q' (.ref l) s → wpAny (model prg w) A (eval value env) Q' E s) (hi : s.heap.IsList l items) (hz : items.size ≤ 1000)
    (h : ∀ s' D, Nx s s' → Kp s s' → s'.heap.PlainList D (slicePick items none none none) → s.heap.get? D = none → Q (.ref D) s') (ht : ∀ o r, letTemporaryGo value o r = pure () := by intro _ _; rfl) :
    wpAny (model prg w) A (eval (.Subscript value (.Slice none none none p) pos) env) Q E s := by
  refine wpAny_Subscript_list_slice (hl (wpAny_evalPart_none (wpAny_evalPart_none ⟨l, items, none, none, rfl, hi, by rw [sizeLine_eq]; omega, .none, .none, ?_⟩))) ht
  have e1 : (s.heap.push { cls := .type "slice", data := .fields #[.none, .none, .none] }).objs.size = s.heap.objs.size + 1 := Heap.size_push ..
  refine h _ _ ⟨rfl, rfl⟩ (fun b o e => Heap.get?_push_of_some _ (Heap.get?_push_of_some _ e)) ⟨0, ?_⟩ ?_
  · have := Heap.get?_push_size (s.heap.push { cls := .type "slice", data := .fields #[.none, .none, .none] }) (o := { cls := .type "list", data := .seq (slicePick items none none none) }) rfl
    rw [e1] at this
    exact this
  · cases q : s.heap.get? (s.heap.objs.size + 1) with
    | none => rfl
    | some o => exact absurd (Heap.lt_size q) (Nat.not_lt_of_le (Nat.le_succ _))

/-- one turn of the octopus: from x and y to z -/
theorem octo_turn (H : Hist U par stamp Le) {fpar fst l Ai oth : Addr} {oI : Obj} {oits : Array Value} {x y z : Int} {ty tx : Tok} {Q : Flow → Shared → Prop} (C : Cb w mg mb s0 U par stamp fpar fst) (M : Meet U stamp Le y x z 0) (h0 : 0 ≤ stamp z)
    (hd : A.depth + 12 < recursionLimit) (hu : A.units + 80 < cLine) (hh0 : A.handled = none)
    (F : Fo s0 L m s) (v1 : m "lookup_parents" = some (.ref fpar)) (v2 : m "lookup_stamp" = some (.ref fst)) (v3 : m "shallows" = some .none) (v4 : m "lcas" = some (.ref l)) (v6 : m "cmt" = some (.int y ty))
    (hl : Ol s0 L l #[.int x tx] s) (ho : Ol s0 L oth oits s) (hI : s.heap.get? Ai = some oI) (i1 : Ai ≠ L) (i2 : Ai ≠ 87)
    (h : ∀ s' m' D t, Fo s0 L m' s' → m' "lookup_parents" = some (.ref fpar) → m' "lookup_stamp" = some (.ref fst) → m' "shallows" = some .none → m' "lcas" = some (.ref D) → Ol s0 L D #[.int z t] s' → Ol s0 L oth oits s' → s'.heap.get? Ai = some oI → Q .next s') :
    wpAny (model prg w) A (execs (forBody oFor) (oE L)) Q E s := by
  refine wpAny_execs_cons (wpAny_Assign_Name (wpAny_List (wpAny_items_nil ⟨Nat.zero_le _, ?_⟩)))
  have pu : ∀ b o, s.heap.get? b = some o → (s.heap.push { cls := .type "list", data := .seq ([] : List Value).toArray }).get? b = some o := fun b o e => Heap.get?_push_of_some _ e
  have F1 : Fo s0 L m { s with heap := s.heap.push { cls := .type "list", data := .seq ([] : List Value).toArray } } := F.nx pu ⟨rfl, rfl⟩
  have fk := F.fresh (fresh_size s.heap)
  have lk : ∀ {b o}, s.heap.get? b = some o → b ≠ s.heap.objs.size := fun e => Nat.ne_of_lt (Heap.lt_size e)
  have hlk : l ≠ s.heap.objs.size := by obtain ⟨n, e⟩ := hl.p; exact lk e
  have hok : oth ≠ s.heap.objs.size := by obtain ⟨n, e⟩ := ho.p; exact lk e
  have hIk : Ai ≠ s.heap.objs.size := lk hI
  have hk1 : Ol s0 L s.heap.objs.size #[] { s with heap := s.heap.push { cls := .type "list", data := .seq ([] : List Value).toArray } } := ⟨⟨0, Heap.get?_push_size _ rfl⟩, fk.2.1, fk.2.2, fk.1⟩
  have hl1 := hl.kp (s' := { s with heap := s.heap.push { cls := .type "list", data := .seq ([] : List Value).toArray } }) pu
  have ho1 := ho.kp (s' := { s with heap := s.heap.push { cls := .type "list", data := .seq ([] : List Value).toArray } }) pu
  have hI1 := pu _ _ hI
  refine stL F1.ns fun s2 x2 ns2 k2 => ?_
  have F2 := F1.loc x2 ns2 k2
  refine wpAny_execs_cons ?_
  refine octo_in H C M h0 hd hu hh0 F2 v1 v2 v3 v4 (upd_self _ _ _) v6 (hl1.loc k2) (hk1.loc k2) hlk fun s3 m3 t3 F3 hm3 hk3 kx3 => ?_
  have ho3 := (ho1.loc k2).kx kx3 (by simp [ho.nL, ho.n87, hok])
  have hI3 := kx3 _ _ (by simp [i1, i2, hIk]) (k2 _ _ i1 hI1)
  have e5 : m3 "next_lcas" = some (.ref s.heap.objs.size) := (hm3 "next_lcas" (by decide) (by decide)).trans (upd_self _ _ _)
  refine wpAny_execs_cons (wpAny_Assign_Name ?_)
  refine sliceAll (fun q => nmL F3.ns e5 q) hk3.p.isList (by show 1 ≤ 1000; decide) fun s4 D x4 k4 hD4 fD => ?_
  rw [pickAll] at hD4
  have F4 := F3.nx k4 x4
  have gD := F3.fresh fD
  refine stL F4.ns fun s5 x5 ns5 k5 => ?_
  have F5 := F4.loc x5 ns5 k5
  refine wpAny_execs_nil (h s5 _ D t3 F5 ?_ ?_ ?_ (upd_self _ _ _) ⟨hD4.at fun o e => k5 _ _ gD.2.1 e, gD.2.1, gD.2.2, gD.1⟩ ((ho3.kp k4).loc k5) (k5 _ _ i1 (k4 _ _ hI3)))
  · exact (hm3 "lookup_parents" (by decide) (by decide)).trans v1
  · exact (hm3 "lookup_stamp" (by decide) (by decide)).trans v2
  · exact (hm3 "shallows" (by decide) (by decide)).trans v3
end
end Mine
end

section
/-! C7 -/
open PySem PySem.W PySem.Calls PyProof.Rows
set_option maxRecDepth 100000
set_option maxHeartbeats 4000000
namespace Mine
section
variable {w : World} {A : Around} {E : Value → Shared → Prop} {s s' : Shared} {mg mb : Str → Option Value}
variable {U : List Int} {par : Int → List Int} {stamp : Int → Int} {Le : Int → Int → Prop} {a b c g1 g2 : Int}

theorem octo_wp (H : Hist U par stamp Le) {fpar fst lC : Addr} {Q : Value → Shared → Prop} (C : Cb w mg mb s U par stamp fpar fst) (M1 : Meet U stamp Le b a g1 0) (M2 : Meet U stamp Le c g1 g2 0) (h1 : 0 ≤ stamp g1) (h2 : 0 ≤ stamp g2)
    (tab : TabOk 89 87 tabEs s.heap) (hG : AllBare s.gens) (hd : A.depth + 14 < recursionLimit) (hu : A.units + 90 < cLine) (hh0 : A.handled = none) (hl : LiI s.heap lC [a, b, c])
    (h : ∀ s' D, Ext [87] s s' → TabOk 89 87 tabEs s'.heap → LiI s'.heap D [g2] → Q (.ref D) s') :
    wpAny (model prg w) A (call (.ref 104) [.ref fpar, .ref fst, .none, .ref lC]) Q E s := by
  have gd := C.gd
  have t0 : s.heap.get? 87 ≠ none := by
    obtain ⟨_, ps, e, _⟩ := tab
    rw [e]; exact fun z => nomatch z
  refine callFn (f := 104) (body := bodyM (topSt 5)) (binds := [("lookup_parents", .ref fpar), ("lookup_stamp", .ref fst), ("shallows", .none), ("commit_ids", .ref lC)]) (by omega) (gd.X 104 _ (k104 w)) rfl rfl (codeRec_of gd.X (c103 w)) gd.NL (BindsTo.of_eq rfl) (by decide) (locs rfl) (fun L s₁ hL x₁ k₁ ns₁ => ?_) rfl rfl rfl
  have F1 : Fo s L _ s₁ := ⟨fun b o _ e => k₁ b o e, by rw [x₁.gens]; exact hG, x₁.os, tab.keeps k₁, ns₁, hL, tab_ne tab hL, t0⟩
  obtain ⟨t1, t2, t3, hp⟩ := hl.three
  have hp1 := hp.at (h' := s₁.heap) fun o e => k₁ _ _ e
  have gd1 := gd.keeps k₁
  refine wpAny_execs_cons (wpAny_If (wpAny_isTrue_Not (wpAny_isTrue_value (nmL ns₁ rfl (wpAny_truthy_list hp1.isList (by show (3:Int) < 2 ^ 63; decide) (itF rfl (wpAny_execs_nil ?_)))))))
  refine wpAny_execs_cons (wpAny_If (wpAny_isTrue_Compare1 ?_))
  refine wpAny_Call_NameR (nmB (s := ⟨s₁.heap, _, _, _, _⟩) gd1 (n_len w) b_len (by decide) (PyProof.Rows.callWith_builtin1 (wpAny_items_cons (nmL (s := ⟨s₁.heap, _, _, _, _⟩) ns₁ rfl (wpAny_items_nil (call_len_list (s := ⟨s₁.heap, _, _, _, _⟩) hp1.isList (by show (3:Int) < 2 ^ 63; decide) ?_))))))
  refine wpAny_Constant_int (PyProof.Rows.le_int (wpAny_truthy_bool (itF rfl (wpAny_execs_nil ?_))))
  -- lcas
  refine wpAny_execs_cons (wpAny_Assign_Name (wpAny_List (wpAny_items_cons (Subscript_ (nmL (s := ⟨s₁.heap, _, _, _, _⟩) ns₁ rfl (wpAny_Constant_int (subscriptTail_builtin (s := ⟨s₁.heap, _, _, _, _⟩) (typeIs_list hp1.isList rfl) slot_list_getitem.lookup (wpAny_getItem_list (s := ⟨s₁.heap, _, _, _, _⟩) hp1.isList (by decide) (by decide) rfl (wpAny_items_nil ⟨by show 1 ≤ sizeLine; rw [sizeLine_eq]; decide, ?_⟩)))))))))
  have pu : ∀ b o, s₁.heap.get? b = some o → (s₁.heap.push { cls := .type "list", data := .seq ([Value.int a t1] : List Value).toArray }).get? b = some o := fun b o e => Heap.get?_push_of_some _ e
  have fl := F1.fresh (fresh_size s₁.heap)
  have F2 : Fo s L _ ⟨s₁.heap.push { cls := .type "list", data := .seq ([Value.int a t1] : List Value).toArray }, s₁.gens, s₁.drawn, s₁.toks, s₁.os⟩ := F1.nx pu ⟨rfl, rfl⟩
  have ol2 : Ol s L s₁.heap.objs.size #[.int a t1] ⟨s₁.heap.push { cls := .type "list", data := .seq ([Value.int a t1] : List Value).toArray }, s₁.gens, s₁.drawn, s₁.toks, s₁.os⟩ := ⟨⟨0, Heap.get?_push_size _ rfl⟩, fl.2.1, fl.2.2, fl.1⟩
  refine stL (s := ⟨s₁.heap.push { cls := .type "list", data := .seq ([Value.int a t1] : List Value).toArray }, _, _, _, _⟩) F2.ns fun s₃ x₃ ns₃ k₃ => ?_
  have F3 : Fo s L _ s₃ := F2.loc ⟨x₃.gens, x₃.os⟩ ns₃ k₃
  have ol3 : Ol s L s₁.heap.objs.size #[.int a t1] s₃ := ol2.loc k₃
  have lC87 : lC ≠ 87 := fun z => by
    obtain ⟨n, e2⟩ := hp
    obtain ⟨_, ps, e1, _⟩ := tab
    rw [z, e1] at e2; cases e2
  have hp3 := hp.at (h' := s₃.heap) fun o e => F3.k _ _ lC87 e
  refine wpAny_execs_cons (wpAny_Assign_Name ?_)
  refine slice1 (fun q => nmL ns₃ rfl q) hp3.isList (by show 3 ≤ 1000; decide) fun s₄ oth x₄ k₄ hO fO => ?_
  rw [pick3] at hO
  have gO := F3.fresh fO
  have F4 := F3.nx k₄ x₄
  refine stL F4.ns fun s₅ x₅ ns₅ k₅ => ?_
  have F5 := F4.loc x₅ ns₅ k₅
  have ol5 := (ol3.kp k₄).loc k₅
  have oO5 : Ol s L oth #[.int b t2, .int c t3] s₅ := ⟨hO.at fun o e => k₅ _ _ gO.2.1 e, gO.2.1, gO.2.2, gO.1⟩
  -- the loop
  refine wpAny_execs_cons (wpAny_For (nmL ns₅ (upd_self _ _ _) (wpAny_pyIter_list oO5.p.isList ?_)))
  have pu5 : ∀ b o, s₅.heap.get? b = some o → (s₅.heap.push { cls := .type "list_iterator", data := .fields #[.ref oth, .int 0 0] }).get? b = some o := fun b o e => Heap.get?_push_of_some _ e
  have fI := F5.fresh (fresh_size s₅.heap)
  have lI : ∀ {b o}, s₅.heap.get? b = some o → b ≠ s₅.heap.objs.size := fun e => Nat.ne_of_lt (Heap.lt_size e)
  have oI : oth ≠ s₅.heap.objs.size := by obtain ⟨n, e⟩ := oO5.p; exact lI e
  have F6 : Fo s L _ { s₅ with heap := s₅.heap.push { cls := .type "list_iterator", data := .fields #[.ref oth, .int 0 0] } } := F5.nx pu5 ⟨rfl, rfl⟩
  refine codeAny_forLoop (fun n s' => ∃ i m l x t, n + i = 2 ∧ Fo s L m s' ∧ m "lookup_parents" = some (.ref fpar) ∧ m "lookup_stamp" = some (.ref fst) ∧ m "shallows" = some .none ∧ m "lcas" = some (.ref l) ∧ Ol s L l #[.int x t] s' ∧
      Ol s L oth #[.int b t2, .int c t3] s' ∧ s'.heap.IsListIter s₅.heap.objs.size oth i ∧ (i = 0 → x = a) ∧ (i = 1 → x = g1) ∧ (i = 2 → x = g2)) ?_ 2
    ⟨0, _, s₁.heap.objs.size, a, t1, rfl, F6, rfl, rfl, rfl, rfl, ol5.kp pu5, oO5.kp pu5, ⟨_, Heap.get?_push_size _ rfl, rfl, rfl⟩, fun _ => rfl, (fun z => nomatch z), (fun z => nomatch z)⟩
  rintro n s6 ⟨i, m, l', x, t, hni, F, v1, v2, v3, v4, hl', ho, hit, q0, q1, q2⟩
  obtain ⟨oa, ea, ca, da⟩ := id hit
  have l'I : l' ≠ s₅.heap.objs.size := by
    obtain ⟨n', e⟩ := hl'.p
    exact ne_kd e ea (by rw [da]; simp [kd])
  have own : ∀ {h' : Heap}, (∀ b o, b ≠ s₅.heap.objs.size → s6.heap.get? b = some o → h'.get? b = some o) → Fo s L m { s6 with heap := h' } ∧ Ol s L l' #[.int x t] { s6 with heap := h' } ∧ Ol s L oth #[.int b t2, .int c t3] { s6 with heap := h' } := fun {h'} k => by
    have kx : Kx [s₅.heap.objs.size] s6.heap h' := fun b o hb e => k b o (by simpa using hb) e
    exact ⟨F.own ea (.inr ⟨by rw [da]; rfl, ca, _, _, _, da⟩) fI.1 fI.2.1 C.e89 kx ⟨rfl, rfl⟩, hl'.kx kx (by simpa using l'I), ho.kx kx (by simpa using oI)⟩
  have step : ∀ (p : Pos) (h' : Heap) (y z : Int) (ty : Tok) (j : Nat), i + 1 = j → j ≤ 2 → Meet U stamp Le y x z 0 → 0 ≤ stamp z → (∀ b o, b ≠ s₅.heap.objs.size → s6.heap.get? b = some o → h'.get? b = some o) → h'.IsListIter s₅.heap.objs.size oth j → (j = 1 → z = g1) → (j = 2 → z = g2) →
      ∀ {Q'} (hQ : ∀ s'', (∃ m', m' < n ∧ ∃ i m l x t, m' + i = 2 ∧ Fo s L m s'' ∧ m "lookup_parents" = some (.ref fpar) ∧ m "lookup_stamp" = some (.ref fst) ∧ m "shallows" = some .none ∧ m "lcas" = some (.ref l) ∧ Ol s L l #[.int x t] s'' ∧
      Ol s L oth #[.int b t2, .int c t3] s'' ∧ s''.heap.IsListIter s₅.heap.objs.size oth i ∧ (i = 0 → x = a) ∧ (i = 1 → x = g1) ∧ (i = 2 → x = g2)) → Q' Flow.next s'') {E'}, wpAny (model prg w) (A.deeper (oE L)) (assign (.Name "cmt" p) (oE L) (.int y ty)) (fun _ s₂ => wpAny (model prg w) (A.deeper (oE L)) (execs (forBody oFor) (oE L)) Q' E' s₂) E' { s6 with heap := h' } := by
    intro p h' y z ty j hj hj2 M hz k hit' z1 z2 Q' hQ E'
    obtain ⟨G1, G2, G3⟩ := own k
    refine assign_Name (stL G1.ns fun s7 x7 ns7 k7 => ?_)
    have F7 := G1.loc x7 ns7 k7
    obtain ⟨o7, e7, r7⟩ := hit'
    refine octo_turn H C M hz (by show A.depth + 1 + 12 < recursionLimit; omega) (by show A.units + 3 + 80 < cLine; omega) hh0 F7 (show _ = _ from v1) v2 v3 v4 (upd_self _ _ _) (G2.loc k7) (G3.loc k7) (k7 _ _ fI.2.1 e7) fI.2.1 fI.2.2 fun s8 m8 D t8 F8 u1 u2 u3 u4 hD8 ho8 hI8 => hQ _ ⟨n - 1, by omega, j, m8, D, z, t8, by omega, F8, u1, u2, u3, u4, hD8, ho8, ⟨o7, hI8, r7⟩, fun z => by omega, z1, z2⟩
  have i3 : i = 0 ∨ i = 1 ∨ i = 2 := by omega
  rcases i3 with rfl | rfl | rfl
  · refine wpAny_pyNext_list_item hit ho.p.isList rfl fun h' hit2 hsb => ?_
    have hx := q0 rfl
    subst hx
    exact step _ h' b g1 t2 1 rfl (by decide) M1 h1 (fun b o hb e => (hsb.2 b hb).trans e) hit2 (fun _ => rfl) (fun z => nomatch z) fun s'' q => q
  · refine wpAny_pyNext_list_item hit ho.p.isList rfl fun h' hit2 hsb => ?_
    have hx := q1 rfl
    subst hx
    exact step _ h' c g2 t3 2 rfl (by decide) M2 h2 (fun b o hb e => (hsb.2 b hb).trans e) hit2 (fun z => nomatch z) (fun _ => rfl) fun s'' q => q
  · refine wpAny_pyNext_list_end hh0 hit ho.p.isList rfl fun h' ex => ?_
    have hx := q2 rfl
    subst hx
    obtain ⟨G1, G2, G3⟩ := own fun b o hb e => ex b o hb e
    refine wpAny_execs_nil (wpAny_execs_cons (wpAny_Return_some (nmL G1.ns v4 ?_)))
    exact h _ l' ⟨G1.os, fun _ => G1.bare, fun b o hb e => G1.k b o (by simpa using hb) e⟩ G1.tab (LiI.of1 G2.p)
end
end Mine
end

section
/-! L1 -/
open PySem PySem.W PySem.Calls PyProof.Rows
set_option maxRecDepth 100000
set_option maxHeartbeats 4000000
namespace Mine

theorem LiI.ints {h : Heap} {l : Addr} {ns : List Int} (x : LiI h l ns) : ∃ vs : List Value, h.PlainList l vs.toArray ∧ IntsAre vs ns := by
  obtain ⟨its, hp, hs, hv⟩ := x
  refine ⟨its.toList, by simpa using hp, ?_⟩
  have : ∀ (vs : List Value) (ns : List Int), vs.length = ns.length → (∀ i, (hi : i < ns.length) → ∃ t, vs[i]? = some (.int ns[i] t)) → IntsAre vs ns := by
    intro vs
    induction vs with
    | nil => intro ns h1 _; cases ns with | nil => exact .nil | cons _ _ => simp at h1
    | cons v vs ih =>
      intro ns h1 h2
      cases ns with
      | nil => simp at h1
      | cons n ns =>
        obtain ⟨t, h0⟩ := h2 0 (by simp)
        simp at h0
        subst h0
        refine .cons n t (ih ns (by simpa using h1) fun i hi => ?_)
        obtain ⟨t', h'⟩ := h2 (i + 1) (by simpa using hi)
        exact ⟨t', by simpa using h'⟩
  exact this _ _ (by simpa using hs) fun i hi => by
    obtain ⟨t, e⟩ := hv i hi
    exact ⟨t, by simpa using e⟩
theorem LiI.ofInts {h : Heap} {l : Addr} {vs : List Value} {ns : List Int} (hp : h.PlainList l vs.toArray) (hi : IntsAre vs ns) : LiI h l ns := by
  refine ⟨_, hp, by simpa using hi.length, fun i hi' => ?_⟩
  obtain ⟨t, e⟩ := hi.get i _ (List.getElem?_eq_getElem hi')
  exact ⟨t, by simpa using e⟩

def pV (p : Int → Bool) : Value → Bool
  | .int n _ => p n
  | _ => false
def FV (f : Int → Int) (v y : Value) : Prop := ∃ n t u, v = .int n t ∧ y = .int (f n) u
theorem ints_paired {p : Int → Bool} {f : Int → Int} : ∀ {vs : List Value} {ns : List Int} {ys : List Value}, IntsAre vs ns → Paired (FV f) (vs.filter (pV p)) ys → IntsAre ys ((ns.filter p).map f)
  | _, _, ys, .nil, h => by
    cases h; exact .nil
  | _, _, ys, .cons n t (vs := vs) (ns := ns) r, h => by
    rw [List.filter_cons] at h
    rw [List.filter_cons]
    have e : pV p (.int n t) = p n := rfl
    rw [e] at h
    cases hp : p n with
    | true =>
      rw [hp] at h
      simp only [if_true] at h ⊢
      cases h with
      | cons h1 h2 =>
        obtain ⟨n', t', u, e1, rfl⟩ := h1
        cases e1
        exact .cons _ _ (ints_paired r h2)
    | false =>
      rw [hp] at h
      simp only [Bool.false_eq_true, if_false] at h ⊢
      exact ints_paired r h

section
variable {prog : Program} {w : World} {A : Around} {E : Value → Shared → Prop} {s : Shared}
theorem lc_ints {x y : Str} {px py pos spos : Pos} {elt iter : Expr} {ifs : List Expr} {scope : Scope} {env : Env} {L : Addr} {cl : List (Str × Addr)} {Q : Flow → Shared → Prop} (p : Int → Bool) (f : Int → Int)
    (h : wpAny (model prog w) A (eval iter env) (fun xv s₁ => ∃ R ns m, xv = .ref R ∧ LiI s₁.heap R ns ∧ ns.length ≤ 1000 ∧ A.handled = none ∧ s₁.heap.Ns L m ∧
      (∀ C n t s₃ m₃ E', n ∈ ns → s₃.heap.Ns C m₃ → m₃ x = some (.int n t) → Kp s₁ s₃ →
        wpAny (model prog w) A (forIn ifs true fun c r => if r = true then do let ok ← isTrue c (compEnvC scope cl C env) (eval c (compEnvC scope cl C env)); pure (ForInStep.yield ok) else pure (ForInStep.yield r)) (fun ok s₄ => ok = p n ∧ Keeps s₃ s₄) E' s₃) ∧
      (∀ C n t s₃ m₃ E', n ∈ ns → p n = true → s₃.heap.Ns C m₃ → m₃ x = some (.int n t) → Kp s₁ s₃ → wpAny (model prog w) A (eval elt (compEnvC scope cl C env)) (fun y s₄ => (∃ u, y = .int (f n) u) ∧ Keeps s₃ s₄) E' s₃) ∧
      ∀ s' D, Nx s₁ s' → KpB L s₁ s' → s'.heap.Ns L (upd m y (.ref D)) → LiI s'.heap D ((ns.filter p).map f) → s₁.heap.get? D = none → Q .next s') E s)
    (hsw : swapsWith (.ListComp elt [⟨.Name x px, iter, ifs, 0⟩] scope pos) (some (.Name y py)) spos.line env = pure true := by rfl)
    (hclos : closureFor scope env = pure cl := by rfl) (hcell : ∀ z ∈ scope.names, z.2 ≠ .cell := by decide) (hkind : scope.kind = .function := by rfl)
    (hnames : ∀ z ∈ scope.names, z.2 = .local → scope.names.lookup z.1 = some .local := by decide) (hx : scope.names.lookup x = some .local := by rfl)
    (hL : env.locals = L := by rfl) (hke : env.scope.kind = .function := by rfl) (hy : env.kindOf y = some .local := by rfl)
    (hs : ∀ x, foldedSetIterable iter env x = pure x := by intro _; rfl) :
    wpAny (model prog w) A (exec (.Assign [.Name y py] (.ListComp elt [⟨.Name x px, iter, ifs, 0⟩] scope pos) spos) env) Q E s := by
  subst hL
  refine wpAny_Assign_ListComp_free (pV p) (FV f) hsw hclos hcell hkind hnames hx hy (by rw [hke]; rfl) (wpAny_mono h (fun xv s₁ h₁ => ?_) fun _ _ e => e) hs
  obtain ⟨R, ns, m, rfl, hR, hz, hh, hns, htest, helt, hQ⟩ := h₁
  obtain ⟨vs, hp, hi⟩ := hR.ints
  have hlen := hi.length
  refine wpAny_pyIter_list hp.isList ?_
  have pu : ∀ b o, s₁.heap.get? b = some o → (s₁.heap.push { cls := .type "list_iterator", data := .fields #[.ref R, .int 0 0] }).get? b = some o := fun b o e => Heap.get?_push_of_some _ e
  have nI : ∀ {b o}, s₁.heap.get? b = some o → b ≠ s₁.heap.objs.size := fun e => Nat.ne_of_lt (Heap.lt_size e)
  have RI : R ≠ s₁.heap.objs.size := by obtain ⟨n, e⟩ := hp; exact nI e
  have up : ∀ {s₃ : Shared}, (∀ b o, b ∉ [s₁.heap.objs.size] → (s₁.heap.push { cls := .type "list_iterator", data := .fields #[.ref R, .int 0 0] }).get? b = some o → s₃.heap.get? b = some o) → Kp s₁ s₃ :=
    fun hk b o e => hk b o (by simpa using nI e) (pu b o e)
  have el : ∀ {i : Nat} {v : Value}, vs.toArray[i]? = some v → ∃ n t, v = .int n t ∧ n ∈ ns := fun {i v} e => by
    have e' : vs[i]? = some v := by simpa using e
    have hlt : i < vs.length := (List.getElem?_eq_some_iff.mp e').1
    obtain ⟨t, e2⟩ := hi.get i _ (List.getElem?_eq_getElem (show i < ns.length by omega))
    rw [e'] at e2
    cases e2
    exact ⟨_, t, rfl, List.getElem_mem _⟩
  refine ⟨s₁.heap.objs.size, _, _, _, _, _, m, rfl, Walks.list hh s₁.heap.objs.size R RI vs.toArray, ?_, ⟨⟨_, Heap.get?_push_size _ rfl, rfl, rfl⟩, hp.isList.push _⟩, ?_, ?_, hns.keeps pu, ⟨?_, ?_⟩, ?_⟩
  · rw [List.size_toArray, sizeLine_eq]; omega
  · intro b hb
    show b < (s₁.heap.push _).objs.size
    rw [Heap.size_push]
    simp only [List.mem_cons, List.not_mem_nil, or_false] at hb
    rcases hb with rfl | rfl
    · exact Nat.lt_succ_self _
    · obtain ⟨n, e⟩ := hp; exact Nat.lt_succ_of_lt (Heap.lt_size e)
  · intro z
    obtain ⟨o, _, _, e, _⟩ := hns
    exact nI e (List.mem_singleton.mp z)
  · intro C i v s₃ m₃ E' _ hP hn' hm hk _
    obtain ⟨n, t, rfl, hn⟩ := el hP
    exact htest C n t s₃ m₃ E' hn hn' hm (up hk)
  · intro C i v s₃ m₃ E' _ hP hpv hn' hm hk _
    obtain ⟨n, t, rfl, hn⟩ := el hP
    refine wpAny_mono (helt C n t s₃ m₃ E' hn hpv hn' hm (up hk)) (fun y s₄ h₄ => ⟨?_, h₄.2⟩) fun _ _ e => e
    obtain ⟨u, rfl⟩ := h₄.1
    exact ⟨n, t, u, rfl, rfl⟩
  · intro D h' tk ys vs' hD _ hpl hlen' hP hF hns' hk
    have evs : vs' = vs := by
      apply List.ext_getElem?
      intro j
      by_cases hj : j < vs'.length
      · have e := hP j _ (List.getElem?_eq_getElem hj)
        rw [List.getElem?_eq_getElem hj, ← e]; simp
      · rw [List.getElem?_eq_none (by omega), List.getElem?_eq_none]
        have : vs'.length = vs.length := by simpa using hlen'
        omega
    rw [evs] at hF
    refine hQ ⟨h', _, _, tk, _⟩ D ⟨rfl, rfl⟩ (fun b o hb e => hk b o hb (by simpa using nI e) (pu b o e)) hns' (LiI.ofInts (by simpa using hpl) (ints_paired hi hF)) ?_
    cases q : s₁.heap.get? D with
    | none => rfl
    | some o => rw [pu _ _ q] at hD; cases hD
end
end Mine
end

section
/-! L2 -/
namespace Mine
def usN (p q r : Nat) : List Nat := [1, p, p * p, q, p * q, p * p * q, r, p * r, p * p * r, q * r, p * q * r, p * p * q * r]
def wN (p q r : Nat) : Nat := p * p * q * r
def rowD (p q r n : Nat) : List Nat := ([p, q, r].filter fun x => n % x == 0).map fun x => n / x
def rowU (p q r n : Nat) : List Nat := ([p, q, r].filter fun x => wN p q r % (n * x) == 0).map fun x => n * x
def FactsP (p q r : Nat) : Prop :=
  (∀ n ∈ usN p q r, 0 < n ∧ n ∣ wN p q r ∧ (∀ x ∈ rowD p q r n, x ∈ usN p q r ∧ x ∣ n ∧ x < n) ∧ (∀ x ∈ rowU p q r n, x ∈ usN p q r ∧ n ∣ x ∧ wN p q r / x < wN p q r / n)) ∧
  (∀ a ∈ usN p q r, ∀ x ∈ usN p q r, Nat.gcd a x ∈ usN p q r ∧ Nat.lcm a x ∈ usN p q r ∧ (x ∣ a → x ≠ a → (x < a ∧ wN p q r / a < wN p q r / x) ∧ (∃ y ∈ rowD p q r a, x ∣ y) ∧ ∃ y ∈ rowU p q r x, y ∣ a)) ∧
  0 < p ∧ 0 < q ∧ 0 < r ∧ wN p q r < 2 ^ 100 ∧ p < 2 ^ 40 ∧ q < 2 ^ 40 ∧ r < 2 ^ 40
def prN (k : Nat) : Nat := [2, 3, 5, 7, 11, 13, 1000003, 999999937].getD k 1

/-- the same, to be computed: each number is worked out once -/
def fo {α : Type} (n : Nat) (k : Nat → α) : α := Nat.rec (k 0) (fun m _ => k (Nat.succ m)) n
theorem fo_eq {α : Type} (n : Nat) (k : Nat → α) : fo n k = k n := by cases n <;> rfl
noncomputable def foL (l : List Nat) (k : List Nat → Bool) : Bool := List.rec (motive := fun _ => (List Nat → Bool) → Bool) (fun k => k []) (fun x _ ih k => fo x fun x' => ih fun t => k (x' :: t)) l k
theorem foL_eq : ∀ (l : List Nat) (k : List Nat → Bool), foL l k = k l
  | [], k => rfl
  | x :: t, k => by
    show fo x (fun x' => foL t fun t => k (x' :: t)) = _
    rw [fo_eq, foL_eq t]
def inU (us : List Nat) (v : Nat) : Bool := fo v fun v => us.any (Nat.beq v)
def okA (us : List Nat) (W p q r n : Nat) : Bool :=
  Nat.blt 0 n && Nat.beq (Nat.mod W n) 0 && (rowD p q r n).all (fun x => inU us x && Nat.beq (Nat.mod n x) 0 && Nat.blt x n) && (rowU p q r n).all (fun x => inU us x && Nat.beq (Nat.mod x n) 0 && Nat.blt (Nat.div W x) (Nat.div W n))
def okB (us : List Nat) (W p q r a x : Nat) : Bool :=
  inU us (Nat.gcd a x) && inU us (Nat.lcm a x) && (!(Nat.beq (Nat.mod a x) 0) || Nat.beq x a ||
    (Nat.blt x a && Nat.blt (Nat.div W a) (Nat.div W x) && (rowD p q r a).any (fun y => Nat.beq (Nat.mod y x) 0) && (rowU p q r x).any (fun y => Nat.beq (Nat.mod a y) 0)))
def okC (p q r : Nat) : Bool := Nat.blt 0 p && Nat.blt 0 q && Nat.blt 0 r && Nat.blt (wN p q r) (2 ^ 100) && Nat.blt p (2 ^ 40) && Nat.blt q (2 ^ 40) && Nat.blt r (2 ^ 40)
noncomputable def okP (p q r : Nat) : Bool := fo p fun p => fo q fun q => fo r fun r => fo (wN p q r) fun W => foL (usN p q r) fun us =>
  us.all (fun n => okA us W p q r n) && us.all (fun a => us.all fun x => okB us W p q r a x) && okC p q r
theorem inU_mem {us : List Nat} {v : Nat} (h : inU us v = true) : v ∈ us := by
  unfold inU at h
  rw [fo_eq] at h
  obtain ⟨x, hx, e⟩ := List.any_eq_true.mp h
  rw [Nat.eq_of_beq_eq_true e]; exact hx
theorem blt_of {a b : Nat} (h : Nat.blt a b = true) : a < b := Nat.le_of_ble_eq_true h
theorem dvd_of {a b : Nat} (h : Nat.beq (Nat.mod b a) 0 = true) : a ∣ b := Nat.dvd_of_mod_eq_zero (Nat.eq_of_beq_eq_true h)
theorem facts_of {p q r : Nat} (h : okP p q r = true) : FactsP p q r := by
  unfold okP at h
  rw [fo_eq, fo_eq, fo_eq, fo_eq, foL_eq] at h
  simp only [Bool.and_eq_true, List.all_eq_true] at h
  obtain ⟨⟨hA, hB⟩, hC⟩ := h
  refine ⟨fun n hn => ?_, fun a ha x hx => ?_, ?_⟩
  · have := hA n hn
    simp only [okA, Bool.and_eq_true, List.all_eq_true] at this
    obtain ⟨⟨⟨h1, h2⟩, h3⟩, h4⟩ := this
    exact ⟨blt_of h1, dvd_of h2, fun x hx => ⟨inU_mem (h3 x hx).1.1, dvd_of (h3 x hx).1.2, blt_of (h3 x hx).2⟩, fun x hx => ⟨inU_mem (h4 x hx).1.1, dvd_of (h4 x hx).1.2, blt_of (h4 x hx).2⟩⟩
  · have := hB a ha x hx
    simp only [okB, Bool.and_eq_true, Bool.or_eq_true] at this
    obtain ⟨⟨h1, h2⟩, h3⟩ := this
    refine ⟨inU_mem h1, inU_mem h2, fun hd hn => ?_⟩
    rcases h3 with (h3 | h3) | ⟨⟨⟨h3, h4⟩, h5⟩, h6⟩
    · rw [show Nat.mod a x = 0 from Nat.mod_eq_zero_of_dvd hd] at h3; cases h3
    · exact absurd (Nat.eq_of_beq_eq_true h3) hn
    · obtain ⟨y, hy, ey⟩ := List.any_eq_true.mp h5
      obtain ⟨z, hz, ez⟩ := List.any_eq_true.mp h6
      exact ⟨⟨blt_of h3, blt_of h4⟩, ⟨y, hy, dvd_of ey⟩, z, hz, dvd_of ez⟩
  · simp only [okC, Bool.and_eq_true] at hC
    obtain ⟨⟨⟨⟨⟨⟨h1, h2⟩, h3⟩, h4⟩, h5⟩, h6⟩, h7⟩ := hC
    exact ⟨blt_of h1, blt_of h2, blt_of h3, blt_of h4, blt_of h5, blt_of h6, blt_of h7⟩
theorem ok1 : ([0, 1, 2, 3, 4, 5, 6, 7].all fun s => okP (prN s) (prN ((s + 1) % 8)) (prN ((s + 1 * 2) % 8))) = true := by decide +kernel
theorem ok2 : ([0, 1, 2, 3, 4, 5, 6, 7].all fun s => okP (prN s) (prN ((s + 2) % 8)) (prN ((s + 2 * 2) % 8))) = true := by decide +kernel
theorem ok3 : ([0, 1, 2, 3, 4, 5, 6, 7].all fun s => okP (prN s) (prN ((s + 3) % 8)) (prN ((s + 3 * 2) % 8))) = true := by decide +kernel
theorem facts_all : ∀ s ∈ List.range 8, ∀ t ∈ [1, 2, 3], FactsP (prN s) (prN ((s + t) % 8)) (prN ((s + t * 2) % 8)) := by
  intro s hs t ht
  have hs : s ∈ [0, 1, 2, 3, 4, 5, 6, 7] := hs
  simp only [List.mem_cons, List.not_mem_nil, or_false] at ht
  rcases ht with rfl | rfl | rfl
  · exact facts_of (List.all_eq_true.mp ok1 s hs)
  · exact facts_of (List.all_eq_true.mp ok2 s hs)
  · exact facts_of (List.all_eq_true.mp ok3 s hs)
end Mine
end

section
/-! L3 -/
namespace Mine
section
variable {p q r : Nat} {rooted : List Nat}
def parDn (p q r : Nat) (rooted : List Nat) (n : Nat) : List Nat := if n ∈ rooted ∧ 1 < n ∧ 1 ∉ rowD p q r n then rowD p q r n ++ [1] else rowD p q r n
def parUn (p q r : Nat) (rooted : List Nat) (n : Nat) : List Nat := if n ∈ rooted ∧ n < wN p q r ∧ wN p q r ∉ rowU p q r n then rowU p q r n ++ [wN p q r] else rowU p q r n
def toZ (l : List Nat) : List Int := l.map fun (n : Nat) => Int.ofNat n
def uZ (p q r : Nat) : List Int := toZ (usN p q r)
def parDz (p q r : Nat) (rooted : List Nat) (c : Int) : List Int := toZ (parDn p q r rooted c.toNat)
def parUz (p q r : Nat) (rooted : List Nat) (c : Int) : List Int := toZ (parUn p q r rooted c.toNat)
def leD (x y : Int) : Prop := x.toNat ∣ y.toNat
def leU (x y : Int) : Prop := y.toNat ∣ x.toNat
def stU (p q r : Nat) (c : Int) : Int := ((wN p q r / c.toNat : Nat) : Int)

theorem toZ_mem {l : List Nat} {c : Int} : c ∈ toZ l ↔ ∃ n ∈ l, c = (n : Int) := by
  simp only [toZ, List.mem_map]
  exact ⟨fun ⟨n, h, e⟩ => ⟨n, h, e.symm⟩, fun ⟨n, h, e⟩ => ⟨n, h, e.symm⟩⟩

theorem one_mem : 1 ∈ usN p q r := .head _
theorem w_mem : wN p q r ∈ usN p q r := by simp [usN, wN]

theorem parDn_mem {n x : Nat} (h : x ∈ parDn p q r rooted n) : x ∈ rowD p q r n ∨ (x = 1 ∧ 1 < n) := by
  unfold parDn at h
  split at h
  · rename_i hc
    rcases List.mem_append.mp h with h | h
    · exact .inl h
    · exact .inr ⟨List.mem_singleton.mp h, hc.2.1⟩
  · exact .inl h
theorem parUn_mem {n x : Nat} (h : x ∈ parUn p q r rooted n) : x ∈ rowU p q r n ∨ (x = wN p q r ∧ n < wN p q r) := by
  unfold parUn at h
  split at h
  · rename_i hc
    rcases List.mem_append.mp h with h | h
    · exact .inl h
    · exact .inr ⟨List.mem_singleton.mp h, hc.2.1⟩
  · exact .inl h
theorem rowD_par {n x : Nat} (h : x ∈ rowD p q r n) : x ∈ parDn p q r rooted n := by
  unfold parDn; split
  · exact List.mem_append_left _ h
  · exact h
theorem rowU_par {n x : Nat} (h : x ∈ rowU p q r n) : x ∈ parUn p q r rooted n := by
  unfold parUn; split
  · exact List.mem_append_left _ h
  · exact h

theorem histD (F : FactsP p q r) : Hist (uZ p q r) (parDz p q r rooted) (fun c => c) leD := by
  obtain ⟨F1, F2, _⟩ := F
  refine ⟨?_, ?_, ?_, fun c _ => Nat.dvd_refl _, fun x y z h h' => Nat.dvd_trans h h', ?_, ?_⟩
  · intro c hc x hx
    obtain ⟨n, hn, rfl⟩ := toZ_mem.mp hc
    obtain ⟨m, hm, rfl⟩ := toZ_mem.mp hx
    rw [Int.toNat_natCast] at hm
    refine toZ_mem.mpr ⟨m, ?_, rfl⟩
    rcases parDn_mem hm with h | ⟨rfl, _⟩
    · exact ((F1 n hn).2.2.1 m h).1
    · exact one_mem
  · intro c hc x hx
    obtain ⟨n, hn, rfl⟩ := toZ_mem.mp hc
    obtain ⟨m, hm, rfl⟩ := toZ_mem.mp hx
    rw [Int.toNat_natCast] at hm
    show (m : Int).toNat ∣ (n : Int).toNat
    rw [Int.toNat_natCast, Int.toNat_natCast]
    rcases parDn_mem hm with h | ⟨rfl, _⟩
    · exact ((F1 n hn).2.2.1 m h).2.1
    · exact Nat.one_dvd _
  · intro c hc x hx
    obtain ⟨n, hn, rfl⟩ := toZ_mem.mp hc
    obtain ⟨m, hm, rfl⟩ := toZ_mem.mp hx
    rw [Int.toNat_natCast] at hm
    show (m : Int) < (n : Int)
    rcases parDn_mem hm with h | ⟨rfl, h⟩
    · exact Int.ofNat_lt.mpr ((F1 n hn).2.2.1 m h).2.2
    · exact Int.ofNat_lt.mpr h
  · intro a ha x hx hle hne
    obtain ⟨n, hn, rfl⟩ := toZ_mem.mp ha
    obtain ⟨m, hm, rfl⟩ := toZ_mem.mp hx
    have hd : m ∣ n := by simpa [leD] using hle
    obtain ⟨y, hy, hdy⟩ := ((F2 n hn m hm).2.2 hd (fun e => hne (by rw [e]))).2.1
    refine ⟨(y : Int), toZ_mem.mpr ⟨y, by rw [Int.toNat_natCast]; exact rowD_par hy, rfl⟩, by simpa [leD] using hdy⟩
  · intro a ha x hx hle hne
    obtain ⟨n, hn, rfl⟩ := toZ_mem.mp ha
    obtain ⟨m, hm, rfl⟩ := toZ_mem.mp hx
    have hd : m ∣ n := by simpa [leD] using hle
    exact Int.ofNat_lt.mpr ((F2 n hn m hm).2.2 hd (fun e => hne (by rw [e]))).1.1

theorem wU_lt (F : FactsP p q r) {n : Nat} (hn : n ∈ usN p q r) (h : n < wN p q r) : wN p q r / wN p q r < wN p q r / n :=
  ((F.2.1 _ w_mem n hn).2.2 (F.1 n hn).2.1 (Nat.ne_of_lt h)).1.2

theorem histU (F : FactsP p q r) : Hist (uZ p q r) (parUz p q r rooted) (stU p q r) leU := by
  have F0 := F
  obtain ⟨F1, F2, _⟩ := F
  refine ⟨?_, ?_, ?_, fun c _ => Nat.dvd_refl _, fun x y z h h' => Nat.dvd_trans h' h, ?_, ?_⟩
  · intro c hc x hx
    obtain ⟨n, hn, rfl⟩ := toZ_mem.mp hc
    obtain ⟨m, hm, rfl⟩ := toZ_mem.mp hx
    rw [Int.toNat_natCast] at hm
    refine toZ_mem.mpr ⟨m, ?_, rfl⟩
    rcases parUn_mem hm with h | ⟨rfl, _⟩
    · exact ((F1 n hn).2.2.2 m h).1
    · exact w_mem
  · intro c hc x hx
    obtain ⟨n, hn, rfl⟩ := toZ_mem.mp hc
    obtain ⟨m, hm, rfl⟩ := toZ_mem.mp hx
    rw [Int.toNat_natCast] at hm
    show (n : Int).toNat ∣ (m : Int).toNat
    rw [Int.toNat_natCast, Int.toNat_natCast]
    rcases parUn_mem hm with h | ⟨rfl, _⟩
    · exact ((F1 n hn).2.2.2 m h).2.1
    · exact (F1 n hn).2.1
  · intro c hc x hx
    obtain ⟨n, hn, rfl⟩ := toZ_mem.mp hc
    obtain ⟨m, hm, rfl⟩ := toZ_mem.mp hx
    rw [Int.toNat_natCast] at hm
    show ((wN p q r / (m : Int).toNat : Nat) : Int) < ((wN p q r / (n : Int).toNat : Nat) : Int)
    rw [Int.toNat_natCast, Int.toNat_natCast]
    rcases parUn_mem hm with h | ⟨rfl, h⟩
    · exact Int.ofNat_lt.mpr ((F1 n hn).2.2.2 m h).2.2
    · exact Int.ofNat_lt.mpr (wU_lt F0 hn h)
  · intro a ha x hx hle hne
    obtain ⟨n, hn, rfl⟩ := toZ_mem.mp ha
    obtain ⟨m, hm, rfl⟩ := toZ_mem.mp hx
    have hd : n ∣ m := by simpa [leU] using hle
    obtain ⟨y, hy, hdy⟩ := ((F2 m hm n hn).2.2 hd (fun e => hne (by rw [e]))).2.2
    refine ⟨(y : Int), toZ_mem.mpr ⟨y, by rw [Int.toNat_natCast]; exact rowU_par hy, rfl⟩, by simpa [leU] using hdy⟩
  · intro a ha x hx hle hne
    obtain ⟨n, hn, rfl⟩ := toZ_mem.mp ha
    obtain ⟨m, hm, rfl⟩ := toZ_mem.mp hx
    have hd : n ∣ m := by simpa [leU] using hle
    have := ((F2 m hm n hn).2.2 hd (fun e => hne (by rw [e]))).1.2
    show ((wN p q r / (m : Int).toNat : Nat) : Int) < ((wN p q r / (n : Int).toNat : Nat) : Int)
    rw [Int.toNat_natCast, Int.toNat_natCast]
    exact Int.ofNat_lt.mpr this

theorem meetD (F : FactsP p q r) {a b : Nat} {mn : Int} (ha : a ∈ usN p q r) (hb : b ∈ usN p q r) (hm : mn ≤ (a : Int)) : Meet (uZ p q r) (fun c => c) leD a b (Nat.gcd a b : Nat) mn := by
  refine ⟨toZ_mem.mpr ⟨_, (F.2.1 a ha b hb).1, rfl⟩, toZ_mem.mpr ⟨a, ha, rfl⟩, toZ_mem.mpr ⟨b, hb, rfl⟩, ?_, ?_, fun x hx h1 h2 => ?_, hm⟩
  · show (Nat.gcd a b : Int).toNat ∣ (a : Int).toNat
    rw [Int.toNat_natCast, Int.toNat_natCast]; exact Nat.gcd_dvd_left a b
  · show (Nat.gcd a b : Int).toNat ∣ (b : Int).toNat
    rw [Int.toNat_natCast, Int.toNat_natCast]; exact Nat.gcd_dvd_right a b
  · have h1' : x.toNat ∣ a := by simpa [leD] using h1
    have h2' : x.toNat ∣ b := by simpa [leD] using h2
    show x.toNat ∣ (Nat.gcd a b : Int).toNat
    rw [Int.toNat_natCast]; exact Nat.dvd_gcd h1' h2'
theorem meetU (F : FactsP p q r) {a b : Nat} {mn : Int} (ha : a ∈ usN p q r) (hb : b ∈ usN p q r) (hm : mn ≤ stU p q r a) : Meet (uZ p q r) (stU p q r) leU a b (Nat.lcm a b : Nat) mn := by
  refine ⟨toZ_mem.mpr ⟨_, (F.2.1 a ha b hb).2.1, rfl⟩, toZ_mem.mpr ⟨a, ha, rfl⟩, toZ_mem.mpr ⟨b, hb, rfl⟩, ?_, ?_, fun x hx h1 h2 => ?_, hm⟩
  · show (a : Int).toNat ∣ (Nat.lcm a b : Int).toNat
    rw [Int.toNat_natCast, Int.toNat_natCast]; exact Nat.dvd_lcm_left a b
  · show (b : Int).toNat ∣ (Nat.lcm a b : Int).toNat
    rw [Int.toNat_natCast, Int.toNat_natCast]; exact Nat.dvd_lcm_right a b
  · have h1' : a ∣ x.toNat := by simpa [leU] using h1
    have h2' : b ∣ x.toNat := by simpa [leU] using h2
    show (Nat.lcm a b : Int).toNat ∣ x.toNat
    rw [Int.toNat_natCast]; exact Nat.lcm_dvd h1' h2'

theorem parD_len (c : Int) : (parDz p q r rooted c).length ≤ 1000 := by
  have h : ∀ n, (rowD p q r n).length ≤ 3 := fun n => by
    unfold rowD; rw [List.length_map]; exact List.length_filter_le _ _
  have := h c.toNat
  simp only [parDz, toZ, List.length_map, parDn]
  split
  · rw [List.length_append, List.length_singleton]; omega
  · omega
theorem parU_len (c : Int) : (parUz p q r rooted c).length ≤ 1000 := by
  have h : ∀ n, (rowU p q r n).length ≤ 3 := fun n => by
    unfold rowU; rw [List.length_map]; exact List.length_filter_le _ _
  have := h c.toNat
  simp only [parUz, toZ, List.length_map, parUn]
  split
  · rw [List.length_append, List.length_singleton]; omega
  · omega
theorem uZ_len : (uZ p q r).length ≤ 1000 := by show 12 ≤ 1000; decide
end
end Mine
end

section
/-! L4 -/
open PySem PySem.W PySem.Calls PyProof.Rows
set_option maxRecDepth 100000
set_option maxHeartbeats 4000000
namespace Mine
theorem n_at (w : World) : nsIn (KK w) mainGlobals "_law_at" = some (some (.ref 119)) := by kernel_rfl
theorem n_div (w : World) : nsIn (KK w) mainGlobals "_law_divisor" = some (some (.ref 126)) := by kernel_rfl
theorem n_octo (w : World) : nsIn (KK w) mainGlobals "find_octopus_base" = some (some (.ref 104)) := by kernel_rfl
theorem n_ff (w : World) : nsIn (KK w) mainGlobals "can_fast_forward" = some (some (.ref 111)) := by kernel_rfl
theorem n_primes (w : World) : nsIn (KK w) mainGlobals "_law_primes" = some (some (.ref 112)) := by kernel_rfl
theorem n_range (w : World) : nsIn (KK w) mainGlobals "range" = some none := by kernel_rfl
theorem b_range : bootBuiltins "range" = some (.type "range") := by rfl
theorem kp119 (w : World) : keepIn (KK w) (.ref 119) = true := by kernel_rfl
theorem kp126 (w : World) : keepIn (KK w) (.ref 126) = true := by kernel_rfl
theorem kp104 (w : World) : keepIn (KK w) (.ref 104) = true := by kernel_rfl
theorem kp111 (w : World) : keepIn (KK w) (.ref 111) = true := by kernel_rfl
theorem k112 (w : World) : (KK w).lookup 112 = some { cls := .type "list", data := .seq #[.int 2 432, .int 3 433, .int 5 434, .int 7 435, .int 11 436, .int 13 437, .int 1000003 438, .int 999999937 439] 0 } := by kernel_rfl
/-- a list of ints, plain or not -/
def LsI (h : Heap) (l : Addr) (ns : List Int) : Prop := ∃ its, h.IsList l its ∧ its.size = ns.length ∧ ∀ i, (hi : i < ns.length) → ∃ t, its[i]? = some (.int ns[i] t)
theorem LsI.keeps {h h' : Heap} {l : Addr} {ns : List Int} (x : LsI h l ns) (k : ∀ b o, h.get? b = some o → h'.get? b = some o) : LsI h' l ns := by
  obtain ⟨its, ⟨o, e, r⟩, b⟩ := x
  exact ⟨its, ⟨o, k _ _ e, r⟩, b⟩
section
variable {prog : Program} {w : World} {A : Around} {E : Value → Shared → Prop} {s : Shared} {mg mb : Str → Option Value}

theorem at_wp {l : Addr} {ns : List Int} {k : Nat} {d : Int} {tk td : Tok} {Q : Value → Shared → Prop} (gd : Gd w mg mb s.heap) (hd : A.depth + 3 < recursionLimit) (hl : LsI s.heap l ns) (hz : (ns.length : Int) < 2 ^ 63)
    (h : ∀ s' t, Nx s s' → Kp s s' → Q (.int (ns.getD k d) t) s') : wpAny (model prg w) A (call (.ref 119) [.ref l, .int k tk, .int d td]) Q E s := by
  refine callFn (f := 119) (body := bodyM (topSt 9)) (binds := [("script", .ref l), ("k", .int k tk), ("other", .int d td)]) (by omega) (gd.X 119 _ (k119 w)) rfl rfl (codeRec_of gd.X (c118 w)) gd.NL (BindsTo.of_eq rfl) (by decide) (locs rfl) (fun L s₁ hL x₁ k₁ ns₁ => ?_) rfl rfl rfl
  obtain ⟨its, hp, hs, hv⟩ := hl.keeps k₁
  have gd1 := gd.keeps k₁
  refine wpAny_execs_cons (wpAny_Return_some (wpAny_IfExp (wpAny_isTrue_Compare1 (nmL ns₁ rfl ?_))))
  refine wpAny_Call_NameR (nmB gd1 (n_len w) b_len (by decide) (PyProof.Rows.callWith_builtin1 (wpAny_items_cons (nmL ns₁ rfl (wpAny_items_nil (call_len_list hp (by rw [hs]; exact hz) ?_))))))
  refine PyProof.Rows.lt_int (wpAny_truthy_bool ?_)
  by_cases hk : k < ns.length
  · refine itT (by simp [hs, hk]) ?_
    obtain ⟨t, ht⟩ := hv k hk
    refine Subscript_ (nmL (s := ⟨s₁.heap, _, _, _, _⟩) ns₁ rfl (nmL (s := ⟨s₁.heap, _, _, _, _⟩) ns₁ rfl (subscriptTail_builtin (s := ⟨s₁.heap, _, _, _, _⟩) (typeIs_list hp rfl) slot_list_getitem.lookup (wpAny_getItem_list (s := ⟨s₁.heap, _, _, _, _⟩) hp (Int.natCast_nonneg _) (by omega) (by rw [Int.toNat_natCast]; exact ht) ?_))))
    have e : ns.getD k d = ns[k] := by simp [List.getD, hk]
    rw [← e]
    exact h _ _ ⟨x₁.gens, x₁.os⟩ k₁
  · refine itF (by simp [hs, hk]) (nmL (s := ⟨s₁.heap, _, _, _, _⟩) ns₁ rfl ?_)
    have e : ns.getD k d = d := by
      rw [List.getD_eq_getElem?_getD, List.getElem?_eq_none (by omega)]; rfl
    have := h ⟨s₁.heap, s₁.gens, s₁.drawn, s₁.toks + 1 + 1, s₁.os⟩ td ⟨x₁.gens, x₁.os⟩ k₁
    rw [e] at this
    exact this
end
end Mine
end

section
/-! L5 -/
open PySem PySem.W PySem.Calls PyProof.Rows
set_option maxRecDepth 100000
set_option maxHeartbeats 400000
namespace Mine
section
variable {prog : Program} {w : World} {A : Around} {E : Value → Shared → Prop} {s : Shared} {mg mb : Str → Option Value}

theorem gcd_step (x y : Nat) : Nat.gcd y (x % y) = Nat.gcd x y := by
  rw [Nat.gcd_comm y, ← Nat.gcd_rec, Nat.gcd_comm]
theorem fmod_nat (x y : Nat) : (x : Int).fmod (y : Int) = ((x % y : Nat) : Int) := by
  rw [Int.fmod_eq_emod_of_nonneg _ (Int.natCast_nonneg _)]; rfl
theorem fdiv_nat (x y : Nat) : (x : Int).fdiv (y : Int) = ((x / y : Nat) : Int) := by
  rw [Int.fdiv_eq_ediv_of_nonneg _ (Int.natCast_nonneg _)]; rfl

theorem unpackL {t : Addr} {u v : Value} {Q : List Value → Shared → Prop} (hh : A.handled = none) (ht : IsTup s.heap t #[u, v]) (hQ : ∀ h', Heap.ExtBut s.heap.objs.size s.heap h' → Q [u, v] { s with heap := h' }) : wpAny (model prg w) A (unpackItems (.ref t) 2 none) Q E s := by
  have U := unpackItems_tuple (prog := prg) (w := w) (Q := Q) (E := E) hh ht fun h' e => hQ h' e
  have e : (#[u, v] : Array Value).size = 2 := rfl
  rw [e] at U
  exact U

theorem div_wp {a b : Nat} {ta tb : Tok} {Q : Value → Shared → Prop} (gd : Gd w mg mb s.heap) (hd : A.depth + 3 < recursionLimit) (hh0 : A.handled = none)
    (h : ∀ s' t, Nx s s' → Kp s s' → Q (.int (Nat.gcd a b : Nat) t) s') : wpAny (model prg w) A (call (.ref 126) [.int a ta, .int b tb]) Q E s := by
  refine callFn (f := 126) (body := bodyM (topSt 10)) (binds := [("one", .int a ta), ("other", .int b tb)]) (by omega) (gd.X 126 _ (k126 w)) rfl rfl (codeRec_of gd.X (c125 w)) gd.NL (BindsTo.of_eq rfl) (by decide) (locs rfl) (fun L s₁ hL x₁ k₁ ns₁ => ?_) rfl rfl rfl
  refine wpAny_execs_cons (wpAny_While (codeAny_whileLoop (fun n s' => ∃ (x : Nat) (m : Str → Option Value) (tx ty : Tok), Nat.gcd x n = Nat.gcd a b ∧ s'.heap.Ns L m ∧ m "one" = some (.int x tx) ∧ m "other" = some (.int n ty) ∧ Nx s s' ∧ Kp s s') ?_ b ⟨a, _, ta, tb, rfl, ns₁, rfl, rfl, x₁, k₁⟩))
  rintro n s2 ⟨x, m, tx, ty, hg, ns, m1, m2, nx, kp⟩
  refine wpAny_isTrue_Compare1 (nmL ns m2 (wpAny_Constant_int (PyProof.Rows.gt_int (wpAny_truthy_bool ?_))))
  by_cases hn : 0 < n
  · refine itT (decide_eq_true (by omega)) ?_
    refine wpAny_execs_cons (Assign_Tuple_swapped (names := ["one", "other"]) (wpAny_Tuple (wpAny_items_cons (nmL (s := ⟨s2.heap, _, _, _, _⟩) ns m2 (wpAny_items_cons (wpAny_BinOp (nmL (s := ⟨s2.heap, _, _, _, _⟩) ns m1 (nmL (s := ⟨s2.heap, _, _, _, _⟩) ns m2 (PyProof.Rows.mod_int' (by omega) (wpAny_items_nil ⟨two_fits _ _, ?_⟩))))))))))
    rw [fmod_nat]
    have pu : ∀ b' o, s2.heap.get? b' = some o → (s2.heap.push { cls := .type "tuple", data := .seq ([Value.int n ty, Value.int (x % n : Nat) (s2.toks + 1)] : List Value).toArray }).get? b' = some o := fun b' o e => Heap.get?_push_of_some _ e
    have ht : IsTup (s2.heap.push { cls := .type "tuple", data := .seq ([Value.int n ty, Value.int (x % n : Nat) (s2.toks + 1)] : List Value).toArray }) s2.heap.objs.size #[.int n ty, .int (x % n : Nat) (s2.toks + 1)] := ⟨_, Heap.get?_push_size _ rfl, rfl, _, rfl⟩
    have hhd : (A.deeper (callEnv fdDiv L 126)).handled = none := hh0
    dsimp only
    show wpAny _ _ (unpackItems (.ref s2.heap.objs.size) 2 none) _ _ _
    refine unpackL hhd ht fun h' ext => ?_
    have kk : ∀ b' o, s2.heap.get? b' = some o → h'.get? b' = some o := fun b' o e => ext b' o (Nat.ne_of_lt (by rw [Heap.size_push]; exact Nat.lt_succ_of_lt (Heap.lt_size e))) (pu b' o e)
    refine wpAny_assignInOrder_more (bindName_ (stL (s := ⟨h', _, _, _, _⟩) (ns.keeps kk) fun s3 x3 ns3 k3 => ?_))
    refine wpAny_assignInOrder_more (bindName_ (stL ns3 fun s4 x4 ns4 k4 => ?_))
    refine wpAny_assignInOrder_none (wpAny_execs_nil ⟨x % n, Nat.mod_lt _ hn, n, _, ty, s2.toks + 1, by rw [gcd_step]; exact hg, ns4, upd_self _ _ _, ?_, ⟨x4.gens.trans (x3.gens.trans nx.gens), x4.os.trans (x3.os.trans nx.os)⟩, fun b' o e => ?_⟩)
    · rw [upd_ne _ _ (by decide)]; exact upd_self _ _ _
    · have nL : b' ≠ L := fun z => by rw [z, hL] at e; cases e
      exact k4 b' o nL (k3 b' o nL (kk b' o (kp b' o e)))
  · refine itF (decide_eq_false (by omega)) (wpAny_execs_nil ?_)
    have n0 : n = 0 := by omega
    subst n0
    rw [Nat.gcd_zero_right] at hg
    subst hg
    refine wpAny_execs_cons (wpAny_Return_some (nmL (s := ⟨s2.heap, _, _, _, _⟩) ns m1 ?_))
    exact h ⟨s2.heap, s2.gens, s2.drawn, s2.toks + 1, s2.os⟩ tx ⟨nx.gens, nx.os⟩ kp
end
end Mine
end

section
/-! L6 -/
open PySem PySem.W PySem.Calls PyProof.Rows
set_option maxRecDepth 100000
set_option maxHeartbeats 1000000
namespace Mine
def dnSt : Stmt := (bodyM (topSt 11)).getD 7 noSt
def upSt : Stmt := (bodyM (topSt 11)).getD 8 noSt
def agSt : Stmt := (bodyM (topSt 11)).getD 9 noSt
def yoSt : Stmt := (bodyM (topSt 11)).getD 10 noSt
def dnQ : Str := "law.<locals>.down"
def upQ : Str := "law.<locals>.up"
def agQ : Str := "law.<locals>.age"
def yoQ : Str := "law.<locals>.youth"
section
variable {prog : Program} {w : World} {A : Around} {E : Value → Shared → Prop} {s : Shared} {mg mb : Str → Option Value}

def envC1 (fd : FuncData) (L f : Addr) : Env := newEnv fd.scope L fd.globals (cellsFrom (L + 1) fd.scope.names fd.closure) (fd.qualname ++ Str.ofString ".<locals>.") (some f) fd.code none fd.builtins

/-- a def with one parameter, that is a cell, and a closure -/
theorem callC1 {f : Addr} {o : Obj} {fd : FuncData} {body : List Stmt} {pos : List Value} {x : Str} {v : Value} {Q : Value → Shared → Prop}
    (hroom : A.depth < recursionLimit) (ho : s.heap.get? f = some o) (hd : o.data = .func fd) (hbody : fd.body = .stmts body) (hcd : s.heap.CodeRec fd.code fd.qualname) (NL : s.heap.NoLimit)
    (hbind : BindsTo s fd ⟨pos, []⟩ [(x, v)]) (hx : fd.scope.names.lookup x = some .cell)
    (hc : ∀ n, (cellsFrom n fd.scope.names fd.closure).lookup x = some n) (hp : ∀ h, pushCells h fd.scope.names = h.push { cls := .type "cell", data := .cell none })
    (h : ∀ L s₁, s.heap.get? L = none → Nx s s₁ → Kp s s₁ → s₁.heap.Ns L (fun _ => none) → s₁.heap.IsCell (L + 1) (some v) → s.heap.get? (L + 1) = none →
      wpAny (model prog w) (A.deeper (envC1 fd L f)) (execs body (envC1 fd L f)) (fun fl s' => Q (match fl with | .ret v => v | _ => .none) s') (fun _ _ => False) s₁)
    (hco : fd.scope.isCoroutine = false) (hgen : fd.scope.isGenerator = false) (hk : fd.scope.kind = .function) :
    wpAny (model prog w) A (call (.ref f) pos []) Q E s := by
  refine wpAny_call (codeAny_call_function hroom ho hd hco hgen hbody hcd ?_)
  refine hbind _ _ _ _ ?_
  simp only [newFunctionEnv, Option.isSome_none, Bool.false_eq_true, if_false]
  refine wpAny_bind (wpAny_alloc ?_)
  refine wpAny_bind (wpAny_layCells _ (fun name kind cells => by cases hkc : kind == NameKind.cell <;> simp [hkc]) _ _ _ _ ?_)
  rw [show ({ s with heap := s.heap.push { cls := .type "frame", data := .dict #[] } } : Shared).heap.objs.size = s.heap.objs.size + 1 from Heap.size_push ..]
  dsimp only
  rw [hp]
  have kk : ∀ b o, s.heap.get? b = some o → ((s.heap.push { cls := .type "frame", data := .dict #[] }).push { cls := .type "cell", data := .cell none }).get? b = some o := fun b o e => Heap.get?_push_of_some _ (Heap.get?_push_of_some _ e)
  have hcell : ((s.heap.push { cls := .type "frame", data := .dict #[] }).push { cls := .type "cell", data := .cell none }).IsCell (s.heap.objs.size + 1) none := by
    have := Heap.get?_push_size (s.heap.push { cls := .type "frame", data := .dict #[] }) (o := { cls := .type "cell", data := .cell none }) rfl
    rw [Heap.size_push] at this
    exact ⟨_, this, rfl⟩
  have hns : ((s.heap.push { cls := .type "frame", data := .dict #[] }).push { cls := .type "cell", data := .cell none }).Ns s.heap.objs.size (fun _ => none) := (Heap.Ns.new s.heap (.type "frame")).keeps fun b o e => Heap.get?_push_of_some _ e
  rw [List.forIn_cons]
  have f1 : s.heap.get? (s.heap.objs.size + 1) = none := by
    cases q : s.heap.get? (s.heap.objs.size + 1) with
    | none => rfl
    | some o => exact absurd (Heap.lt_size q) (Nat.not_lt_of_le (Nat.le_succ _))
  refine wpAny_bind (wpAny_bind (wpAny_bind (wpAny_storeName_cell (env := newEnv fd.scope s.heap.objs.size fd.globals (cellsFrom (s.heap.objs.size + 1) fd.scope.names fd.closure) (fd.qualname ++ Str.ofString ".<locals>.") (some f) fd.code none fd.builtins) hk hx (hc _) hcell fun h' hc' hsb => ?_)))
  refine wpAny_pure ?_
  dsimp only
  rw [List.forIn_nil]
  refine wpAny_pure (wpAny_pure ?_)
  have n1 : s.heap.objs.size ≠ s.heap.objs.size + 1 := Nat.ne_of_lt (Nat.lt_succ_self _)
  have kk' : Kp s ⟨h', s.gens, s.drawn, s.toks, s.os⟩ := fun b o e => (hsb.2 b (fun z => by rw [z, f1] at e; cases e)).trans (kk b o e)
  refine ⟨NL.keeps kk', codeAny_func (wpAny_mono (h s.heap.objs.size _ (fresh_size _) ⟨rfl, rfl⟩ kk' (hns.sameBut hsb n1) hc' f1) (fun fl s' q => ?_) fun _ _ q => q.elim)⟩
  cases fl <;> exact q

theorem add_li {l b : Addr} {xs ys : Array Value} {Q : Value → Shared → Prop} (hl : s.heap.PlainList l xs) (hb : s.heap.PlainList b ys) (hsz : xs.size + ys.size ≤ 1000)
    (h : Q (.ref s.heap.objs.size) { s with heap := s.heap.push { cls := .type "list", data := .seq (xs ++ ys) } }) : wpAny (model prog w) A (binaryOp .Add (.ref l) (.ref b)) Q E s := by
  obtain ⟨n, e⟩ := hl
  obtain ⟨n2, e2⟩ := hb
  exact PySem.P.add_list (n := n) (n2 := n2) e e2 h (by rw [sizeLine_eq]; omega)
end
end Mine
end

section
/-! L7 -/
open PySem PySem.W PySem.Calls PyProof.Rows
set_option maxRecDepth 100000
set_option maxHeartbeats 1000000
namespace Mine
/-- what is in the heap but at 87 stays, as long as it is no table -/
theorem not87 {hB h : Heap} {ps : Array Value} (e87 : hB.get? 87 = some (tabObj ps)) (k : ∀ b o, b ≠ 87 → hB.get? b = some o → h.get? b = some o) {a : Addr} {o : Obj} (e : hB.get? a = some o) (hk : kd o.data ≠ 3) : h.get? a = some o :=
  k a o (ne_kd e e87 (by simpa [kd, tabObj] using hk)) e
theorem code87 {hB h : Heap} {ps : Array Value} (e87 : hB.get? 87 = some (tabObj ps)) (tr : TriplesOk ps.toList) (k : ∀ b o, b ≠ 87 → hB.get? b = some o → h.get? b = some o) {cd : Value} {q : Str} (x : hB.CodeRec cd q) : h.CodeRec cd q := by
  obtain ⟨c, o, vs, t, e1, e2, e3, e4⟩ := x
  refine ⟨c, o, vs, t, e1, k _ _ (fun z => ?_) e2, e3, e4⟩
  rw [z, e87] at e2
  cases e2
  cases e3
  exact triples_no_str tr e4
theorem cell87 {hB h : Heap} {ps : Array Value} (e87 : hB.get? 87 = some (tabObj ps)) (k : ∀ b o, b ≠ 87 → hB.get? b = some o → h.get? b = some o) {c : Addr} {v : Option Value} (x : hB.IsCell c v) : h.IsCell c v := by
  obtain ⟨o, e, d⟩ := x
  exact ⟨o, not87 e87 k e (by simp [kd, d]), d⟩
theorem li87 {hB h : Heap} {ps : Array Value} (e87 : hB.get? 87 = some (tabObj ps)) (k : ∀ b o, b ≠ 87 → hB.get? b = some o → h.get? b = some o) {l : Addr} {ns : List Int} (x : LiI hB l ns) : LiI h l ns := by
  obtain ⟨its, ⟨n, e⟩, z⟩ := x
  exact ⟨its, ⟨n, not87 e87 k e (by simp [kd])⟩, z⟩

theorem nat_fit {n : Nat} (h : n < 2 ^ 100) : Builtin.divisionGoesByPylong m n = false := by
  refine PyProof.noPylong_of_log2 ?_
  rw [Int.natAbs_natCast]
  by_cases h0 : n = 0
  · subst h0; decide +kernel
  · have := (Nat.log2_lt h0).mpr h
    omega

section
variable {w : World} {A : Around} {E : Value → Shared → Prop} {s : Shared} {mg mb : Str → Option Value}
variable {p q r : Nat} {rooted : List Nat}

theorem age_ok {hB : Heap} {f c' : Addr} {doc pm ctv : Value} {ps : Array Value} (U : List Int) (gB : Gd w mg mb hB) (e87 : hB.get? 87 = some (tabObj ps)) (tr : TriplesOk ps.toList)
    (hf : hB.get? f = some (fnO (fdN agQ agSt [] doc pm c' ctv))) (hcd : hB.CodeRec (.ref c') agQ) : CallI w hB U f (RSt fun c => c) := by
  refine ⟨⟨_, _, _, _, hf⟩, ne_kd hf e87 (by simp [kd, fnO, tabObj]), fun {A E s n t Q} hd hu hh k hn h => ?_⟩
  have gd : Gd w mg mb s.heap := gB.kpT fun b o h1 _ e => k b o h1 e
  refine callFn (f := f) (body := bodyM agSt) (binds := [("number", .int n t)]) (by omega) (not87 e87 k hf (by simp [kd, fnO])) rfl rfl (code87 e87 tr k hcd) gd.NL (BindsTo.of_eq rfl) (by show ∀ x ∈ (scopeM agSt).names, x.2 ≠ .cell; decide) (locs rfl) (fun L s₁ hL x₁ k₁ ns₁ => ?_) rfl rfl rfl
  refine wpAny_execs_cons (wpAny_Return_some (nmL ns₁ rfl ?_))
  exact h s₁ _ ⟨x₁.os, fun b => by rw [x₁.gens]; exact b, fun b o _ e => k₁ b o e⟩ ⟨t, rfl⟩

theorem youth_ok {hB : Heap} {f c' cW : Addr} {doc pm ctv : Value} {ps : Array Value} {tw : Tok} (F : FactsP p q r) (gB : Gd w mg mb hB) (e87 : hB.get? 87 = some (tabObj ps)) (tr : TriplesOk ps.toList)
    (hf : hB.get? f = some (fnO (fdN yoQ yoSt [("whole", cW)] doc pm c' ctv))) (hcd : hB.CodeRec (.ref c') yoQ) (hW : hB.IsCell cW (some (.int (wN p q r : Nat) tw))) : CallI w hB (uZ p q r) f (RSt (stU p q r)) := by
  refine ⟨⟨_, _, _, _, hf⟩, ne_kd hf e87 (by simp [kd, fnO, tabObj]), fun {A E s n t Q} hd hu hh k hn h => ?_⟩
  have gd : Gd w mg mb s.heap := gB.kpT fun b o h1 _ e => k b o h1 e
  obtain ⟨m, hm, rfl⟩ := toZ_mem.mp hn
  have hpos := (F.1 m hm).1
  have hlt : m < 2 ^ 100 := Nat.lt_of_le_of_lt (Nat.le_of_dvd (Nat.mul_pos (Nat.mul_pos (Nat.mul_pos F.2.2.1 F.2.2.1) F.2.2.2.1) F.2.2.2.2.1) (F.1 m hm).2.1) F.2.2.2.2.2.1
  refine callFn (f := f) (body := bodyM yoSt) (binds := [("number", .int m t)]) (by omega) (not87 e87 k hf (by simp [kd, fnO])) rfl rfl (code87 e87 tr k hcd) gd.NL (BindsTo.of_eq rfl) (by show ∀ x ∈ (scopeM yoSt).names, x.2 ≠ .cell; decide) (locs rfl) (fun L s₁ hL x₁ k₁ ns₁ => ?_) rfl rfl rfl
  have hW1 := (cell87 e87 k hW).keeps k₁
  refine wpAny_execs_cons (wpAny_Return_some (wpAny_BinOp (nmF (c := cW) hW1 (nmL ns₁ rfl (floordiv_int (by omega) ?_ (.inl (nat_fit hlt)))))))
  rw [fdiv_nat]
  exact h _ (.int ((wN p q r / m : Nat) : Int) s₁.toks) ⟨x₁.os, fun b => by show AllBare s₁.gens; rw [x₁.gens]; exact b, fun b o _ e => k₁ b o e⟩ ⟨s₁.toks, rfl⟩

theorem filtD (k : Nat) : ((toZ [p, q, r]).filter fun x => (k : Int).fmod x == 0).map (fun x => (k : Int).fdiv x) = toZ (rowD p q r k) := by
  simp only [rowD, toZ]
  have : ∀ l : List Nat, (((l.map fun (n : Nat) => Int.ofNat n).filter fun x => (k : Int).fmod x == 0).map fun x => (k : Int).fdiv x) = ((l.filter fun x => k % x == 0).map fun x => k / x).map fun (n : Nat) => Int.ofNat n := by
    intro l
    induction l with
    | nil => rfl
    | cons a l ih =>
      have e1 : ((k : Int).fmod (Int.ofNat a) == 0) = (k % a == 0) := by
        have := fmod_nat k a
        rw [show (Int.ofNat a) = (a : Int) from rfl, this]
        by_cases h : k % a = 0
        · simp [h]
        · have : ((k % a : Nat) : Int) ≠ 0 := by omega
          rw [beq_eq_false_iff_ne.mpr this, beq_eq_false_iff_ne.mpr h]
      have e2 : (k : Int).fdiv (Int.ofNat a) = Int.ofNat (k / a) := fdiv_nat k a
      simp only [List.map_cons, List.filter_cons, e1]
      cases h : (k % a == 0)
      · simp only [Bool.false_eq_true, if_false]; exact ih
      · simp only [if_true, List.map_cons, e2]; rw [ih]
  exact this _
theorem any_toZ {l : List Nat} {k : Nat} : ((toZ l).any (· == (k : Int))) = decide (k ∈ l) := by
  rw [Bool.eq_iff_iff, List.any_eq_true, decide_eq_true_iff]
  constructor
  · rintro ⟨x, hx, h⟩
    obtain ⟨n, hn, rfl⟩ := toZ_mem.mp hx
    have : (n : Int) = k := by simpa using h
    have : n = k := by omega
    rw [← this]; exact hn
  · intro h
    exact ⟨k, toZ_mem.mpr ⟨k, h, rfl⟩, by simp⟩

theorem down_ok {hB : Heap} {f c' cP cR lp lr : Addr} {doc pm ctv : Value} {ps : Array Value} (F : FactsP p q r) (gB : Gd w mg mb hB) (e87 : hB.get? 87 = some (tabObj ps)) (tr : TriplesOk ps.toList)
    (hf : hB.get? f = some (fnO (fdN dnQ dnSt [("rooted", cR), ("primes", cP)] doc pm c' ctv))) (hcd : hB.CodeRec (.ref c') dnQ)
    (hP : hB.IsCell cP (some (.ref lp))) (hlp : LiI hB lp (toZ [p, q, r])) (hR : hB.IsCell cR (some (.ref lr))) (hlr : LiI hB lr (toZ rooted)) : CallI w hB (uZ p q r) f (RPar (parDz p q r rooted)) := by
  refine ⟨⟨_, _, _, _, hf⟩, ne_kd hf e87 (by simp [kd, fnO, tabObj]), fun {A E s n t Q} hd hu hh k hn h => ?_⟩
  have gd : Gd w mg mb s.heap := gB.kpT fun b o h1 _ e => k b o h1 e
  obtain ⟨m, hm, rfl⟩ := toZ_mem.mp hn
  refine callC1 (f := f) (body := bodyM dnSt) (x := "number") (v := .int m t) (by omega) (not87 e87 k hf (by simp [kd, fnO])) rfl rfl (code87 e87 tr k hcd) gd.NL (BindsTo.of_eq rfl) rfl (fun n => rfl) (fun h => rfl) (fun L s₁ hL x₁ k₁ ns₁ hc₁ hL1 => ?_) rfl rfl rfl
  have hP1 := (cell87 e87 k hP).keeps k₁
  have hR1 := (cell87 e87 k hR).keeps k₁
  have lp1 := (li87 e87 k hlp).keeps k₁
  have lr1 := (li87 e87 k hlr).keeps k₁
  have hpos : ∀ x ∈ toZ [p, q, r], x ≠ 0 := fun x hx => by
    obtain ⟨n, hn, rfl⟩ := toZ_mem.mp hx
    simp only [List.mem_cons, List.not_mem_nil, or_false] at hn
    have := F.2.2.1; have := F.2.2.2.1; have := F.2.2.2.2.1
    rcases hn with rfl | rfl | rfl <;> omega
  have hfit : ∀ x ∈ toZ [p, q, r], ∀ m : Int, Builtin.divisionGoesByPylong m x = false := fun x hx m => by
    obtain ⟨n, hn, rfl⟩ := toZ_mem.mp hx
    refine nat_fit ?_
    have hW := F.2.2.2.2.2.1
    have hin : n ∈ usN p q r := by
      simp only [List.mem_cons, List.not_mem_nil, or_false] at hn
      rcases hn with rfl | rfl | rfl <;> simp [usN]
    exact Nat.lt_of_le_of_lt (Nat.le_of_dvd (Nat.mul_pos (Nat.mul_pos (Nat.mul_pos F.2.2.1 F.2.2.1) F.2.2.2.1) F.2.2.2.2.1) (F.1 n hin).2.1) hW
  refine wpAny_execs_cons (lc_ints (fun x => (m : Int).fmod x == 0) (fun x => (m : Int).fdiv x) (nmF (c := cP) hP1 ⟨lp, toZ [p, q, r], _, rfl, lp1, by show 3 ≤ 1000; decide, hh, ns₁, fun C n t' s₃ m₃ E' hn' ns₃ hm₃ k₃ => ?_, fun C n t' s₃ m₃ E' hn' hp' ns₃ hm₃ k₃ => ?_, fun s₂ D nx₂ k₂ ns₂ li₂ fD => ?_⟩))
  · refine wpAny_tests_one (wpAny_isTrue_Compare1 (wpAny_BinOp (nmC (c := L + 1) (hc₁.keeps k₃) (nmL ns₃ hm₃ (PyProof.Rows.mod_int' (hpos n hn') (wpAny_Constant_int (eq_int (wpAny_truthy_bool ⟨rfl, ?_⟩))))))))
    exact ⟨s₃.heap, _, rfl, fun b o e => e⟩
  · refine wpAny_BinOp (nmC (c := L + 1) (hc₁.keeps k₃) (nmL ns₃ hm₃ (floordiv_int (hpos n hn') ⟨⟨_, rfl⟩, ?_⟩ (.inl (hfit n hn' _)))))
    exact ⟨s₃.heap, _, rfl, fun b o e => e⟩
  · rw [filtD] at li₂
    have K2 : Kp s s₂ := KpB.old k₂ k₁ hL
    have kB : ∀ b o, b ≠ 87 → hB.get? b = some o → s₂.heap.get? b = some o := fun b o hb e => K2 b o (k b o hb e)
    have hR2 := cell87 e87 kB hR
    obtain ⟨vr, pr, ir⟩ := (li87 e87 kB hlr).ints
    obtain ⟨vd, pd, id'⟩ := li₂.ints
    have hc₂ : s₂.heap.IsCell (L + 1) (some (.int m t)) := by
      obtain ⟨o, e, d⟩ := hc₁
      exact ⟨o, k₂ _ _ (Nat.ne_of_gt (Nat.lt_succ_self _)) e, d⟩
    have nx : Nx s s₂ := x₁.trans nx₂
    have fin : ∀ (s₃ : Shared) (D' : Addr), Nx s₂ s₃ → Kp s₂ s₃ → s₂.heap.get? D' = none ∨ D' = D → LiI s₃.heap D' (toZ (parDn p q r rooted m)) → Q (.ref D') s₃ := fun s₃ D' nx₃ k₃ hD li => by
      refine h s₃ _ ⟨nx₃.os.trans nx.os, fun b => by rw [nx₃.gens, nx.gens]; exact b, fun b o _ e => k₃ b o (K2 b o e)⟩ ⟨D', rfl, li, ?_⟩
      cases z : s.heap.get? D' with
      | none => rfl
      | some o =>
        rcases hD with hD | rfl
        · rw [K2 _ _ z] at hD; cases hD
        · rw [k₁ _ _ z] at fD; cases fD
    have no : ∀ s₃ : Shared, s₃.heap = s₂.heap → s₃.gens = s₂.gens → s₃.os = s₂.os → ¬ (m ∈ rooted ∧ 1 < m ∧ 1 ∉ rowD p q r m) → Q (.ref D) s₃ := fun s₃ e1 e2 e3 hn => by
      refine fin s₃ D ⟨e2, e3⟩ (fun b o e => by rw [e1]; exact e) (.inr rfl) ?_
      unfold parDn
      rw [if_neg hn, e1]; exact li₂
    refine wpAny_execs_cons (wpAny_Return_some (wpAny_IfExp (wpAny_isTrue_BoolOp (wpAny_allTrue_And_cons (wpAny_isTrue_Compare1 (nmC (c := L + 1) hc₂ (nmF (c := cR) hR2 (PyProof.Rows.in_list_ints pr.isList ir (wpAny_truthy_bool ?_)))))))))
    rw [any_toZ]
    by_cases h1 : m ∈ rooted
    · refine itT (decide_eq_true h1) (wpAny_allTrue_And_cons (wpAny_isTrue_Compare1 (nmC (c := L + 1) hc₂ (wpAny_Constant_int (PyProof.Rows.gt_int (wpAny_truthy_bool ?_))))))
      by_cases h2 : 1 < m
      · refine itT (decide_eq_true (by omega)) (wpAny_allTrue_And_cons (wpAny_isTrue_Compare1 (wpAny_Constant_int (nmL (s := ⟨s₂.heap, _, _, _, _⟩) ns₂ (upd_self _ _ _) (PyProof.Rows.notin_list_ints (s := ⟨s₂.heap, _, _, _, _⟩) pd.isList id' (wpAny_truthy_bool ?_))))))
        have e1 : ((toZ (rowD p q r m)).any (· == (1 : Int))) = decide (1 ∈ rowD p q r m) := any_toZ (k := 1)
        rw [e1]
        by_cases h3 : 1 ∈ rowD p q r m
        · refine itF (by simp [h3]) (itF rfl (nmL (s := ⟨s₂.heap, _, _, _, _⟩) ns₂ (upd_self _ _ _) ?_))
          exact no _ rfl rfl rfl fun z => z.2.2 h3
        · refine itT (by simp [h3]) (wpAny_allTrue_And_nil (itT rfl ?_))
          refine wpAny_BinOp (nmL (s := ⟨s₂.heap, _, _, _, _⟩) ns₂ (upd_self _ _ _) (wpAny_List (wpAny_items_cons (wpAny_Constant_int (wpAny_items_nil ⟨by show 1 ≤ sizeLine; rw [sizeLine_eq]; decide, ?_⟩)))))
          have pu : ∀ tk b o, s₂.heap.get? b = some o → (s₂.heap.push { cls := .type "list", data := .seq ([Value.int 1 tk] : List Value).toArray }).get? b = some o := fun tk b o e => Heap.get?_push_of_some _ e
          have hlen : vd.length ≤ 3 := by
            have := id'.length
            have e : (toZ (rowD p q r m)).length ≤ 3 := by
              simp only [toZ, rowD, List.length_map]; exact List.length_filter_le _ _
            omega
          refine add_li (s := ⟨s₂.heap.push _, _, _, _, _⟩) (pd.at fun o e => pu _ _ _ e) ⟨0, Heap.get?_push_size _ rfl⟩ (by simp; omega) ?_
          refine fin _ _ ⟨rfl, rfl⟩ (fun b o e => Heap.get?_push_of_some _ (pu _ b o e)) (.inl ?_) ?_
          · refine Heap.get?_none_of_le ?_
            dsimp only
            rw [Heap.size_push]
            exact Nat.le_succ _
          · have e3 : toZ (parDn p q r rooted m) = toZ (rowD p q r m) ++ [1] := by
              unfold parDn
              rw [if_pos ⟨h1, h2, h3⟩]
              simp [toZ]
            rw [e3]
            refine LiI.ofInts (vs := vd ++ [.int 1 (s₂.toks + 1 + 1)]) ⟨0, ?_⟩ (id'.append (.cons _ _ .nil))
            · have := Heap.get?_push_size (s₂.heap.push { cls := .type "list", data := .seq ([Value.int 1 (s₂.toks + 1 + 1)] : List Value).toArray }) (o := { cls := .type "list", data := .seq (vd.toArray ++ #[Value.int 1 (s₂.toks + 1 + 1)]) }) rfl
              simpa using this
      · refine itF (decide_eq_false (by omega)) (itF rfl (nmL (s := ⟨s₂.heap, _, _, _, _⟩) ns₂ (upd_self _ _ _) ?_))
        exact no _ rfl rfl rfl fun z => h2 z.2.1
    · refine itF (decide_eq_false h1) (itF rfl (nmL (s := ⟨s₂.heap, _, _, _, _⟩) ns₂ (upd_self _ _ _) ?_))
      exact no _ rfl rfl rfl fun z => h1 z.1
end
end Mine
end

section
/-! L8 -/
open PySem PySem.W PySem.Calls PyProof.Rows
set_option maxRecDepth 100000
set_option maxHeartbeats 1000000
namespace Mine
theorem nat_bits {n : Nat} (h : n < 2 ^ 200) : Builtin.Int.intBits n ≤ 2 ^ 20 := by
  unfold Builtin.Int.intBits
  rw [Int.natAbs_natCast]
  by_cases h0 : n = 0
  · subst h0; decide
  · rw [if_neg (by simpa using h0)]
    have := (Nat.log2_lt h0).mpr h
    have e : (2 : Nat) ^ 20 = 1048576 := by decide
    omega
theorem mul_ok {a b : Nat} (ha : a < 2 ^ 200) (hb : b < 2 ^ 200) : IntMulOk a b := IntMulOk.of_bits (nat_bits ha) (nat_bits hb)
section
variable {w : World} {A : Around} {E : Value → Shared → Prop} {s : Shared} {mg mb : Str → Option Value}
variable {p q r : Nat} {rooted : List Nat}
theorem us_lt (F : FactsP p q r) {n : Nat} (hn : n ∈ usN p q r) : n < 2 ^ 100 :=
  Nat.lt_of_le_of_lt (Nat.le_of_dvd (Nat.mul_pos (Nat.mul_pos (Nat.mul_pos F.2.2.1 F.2.2.1) F.2.2.2.1) F.2.2.2.2.1) (F.1 n hn).2.1) F.2.2.2.2.2.1
theorem up100 {n : Nat} (h : n < 2 ^ 100) : n < 2 ^ 200 := Nat.lt_of_lt_of_le h (Nat.pow_le_pow_right (by decide) (by decide))
theorem filtU (W k : Nat) : ((toZ [p, q, r]).filter fun x => (W : Int).fmod ((k : Int) * x) == 0).map (fun x => (k : Int) * x) = toZ (([p, q, r].filter fun x => W % (k * x) == 0).map fun x => k * x) := by
  simp only [toZ]
  have : ∀ l : List Nat, (((l.map fun (n : Nat) => Int.ofNat n).filter fun x => (W : Int).fmod ((k : Int) * x) == 0).map fun x => (k : Int) * x) = ((l.filter fun x => W % (k * x) == 0).map fun x => k * x).map fun (n : Nat) => Int.ofNat n := by
    intro l
    induction l with
    | nil => rfl
    | cons a l ih =>
      have e2 : (k : Int) * (Int.ofNat a) = Int.ofNat (k * a) := by
        show (k : Int) * (a : Int) = ((k * a : Nat) : Int)
        rw [Int.natCast_mul]
      have e1 : ((W : Int).fmod ((k : Int) * Int.ofNat a) == 0) = (W % (k * a) == 0) := by
        rw [e2]
        have := fmod_nat W (k * a)
        rw [show (Int.ofNat (k * a)) = ((k * a : Nat) : Int) from rfl, this]
        by_cases h : W % (k * a) = 0
        · simp [h]
        · have : ((W % (k * a) : Nat) : Int) ≠ 0 := by omega
          rw [beq_eq_false_iff_ne.mpr this, beq_eq_false_iff_ne.mpr h]
      simp only [List.map_cons, List.filter_cons, e1]
      cases h : (W % (k * a) == 0)
      · simp only [Bool.false_eq_true, if_false]; exact ih
      · simp only [if_true, List.map_cons, e2]; rw [ih]
  exact this _

theorem up_ok {hB : Heap} {f c' cP cR cW lp lr : Addr} {doc pm ctv : Value} {ps : Array Value} {tw : Tok} (F : FactsP p q r) (gB : Gd w mg mb hB) (e87 : hB.get? 87 = some (tabObj ps)) (tr : TriplesOk ps.toList)
    (hf : hB.get? f = some (fnO (fdN upQ upSt [("whole", cW), ("rooted", cR), ("primes", cP)] doc pm c' ctv))) (hcd : hB.CodeRec (.ref c') upQ)
    (hP : hB.IsCell cP (some (.ref lp))) (hlp : LiI hB lp (toZ [p, q, r])) (hR : hB.IsCell cR (some (.ref lr))) (hlr : LiI hB lr (toZ rooted)) (hW : hB.IsCell cW (some (.int (wN p q r : Nat) tw))) : CallI w hB (uZ p q r) f (RPar (parUz p q r rooted)) := by
  refine ⟨⟨_, _, _, _, hf⟩, ne_kd hf e87 (by simp [kd, fnO]), fun {A E s n t Q} hd hu hh k hn h => ?_⟩
  have gd : Gd w mg mb s.heap := gB.kpT fun b o h1 _ e => k b o h1 e
  obtain ⟨m, hm, rfl⟩ := toZ_mem.mp hn
  refine callC1 (f := f) (body := bodyM upSt) (x := "number") (v := .int m t) (by omega) (not87 e87 k hf (by simp [kd, fnO])) rfl rfl (code87 e87 tr k hcd) gd.NL (BindsTo.of_eq rfl) rfl (fun n => rfl) (fun h => rfl) (fun L s₁ hL x₁ k₁ ns₁ hc₁ hL1 => ?_) rfl rfl rfl
  have hP1 := (cell87 e87 k hP).keeps k₁
  have hW1 := (cell87 e87 k hW).keeps k₁
  have lp1 := (li87 e87 k hlp).keeps k₁
  have hprime : ∀ x ∈ toZ [p, q, r], ∃ y : Nat, x = y ∧ 0 < y ∧ y < 2 ^ 40 := fun x hx => by
    obtain ⟨n, hn, rfl⟩ := toZ_mem.mp hx
    simp only [List.mem_cons, List.not_mem_nil, or_false] at hn
    refine ⟨n, rfl, ?_⟩
    rcases hn with rfl | rfl | rfl
    · exact ⟨F.2.2.1, F.2.2.2.2.2.2.1⟩
    · exact ⟨F.2.2.2.1, F.2.2.2.2.2.2.2.1⟩
    · exact ⟨F.2.2.2.2.1, F.2.2.2.2.2.2.2.2⟩
  have mpos := (F.1 m hm).1
  have up40 : ∀ {y : Nat}, y < 2 ^ 40 → y < 2 ^ 200 := fun h => Nat.lt_of_lt_of_le h (Nat.pow_le_pow_right (by decide) (by decide))
  refine wpAny_execs_cons (lc_ints (fun x => ((wN p q r : Nat) : Int).fmod ((m : Int) * x) == 0) (fun x => (m : Int) * x) (nmF (c := cP) hP1 ⟨lp, toZ [p, q, r], _, rfl, lp1, by show 3 ≤ 1000; decide, hh, ns₁, fun C n t' s₃ m₃ E' hn' ns₃ hm₃ k₃ => ?_, fun C n t' s₃ m₃ E' hn' hp' ns₃ hm₃ k₃ => ?_, fun s₂ D nx₂ k₂ ns₂ li₂ fD => ?_⟩))
  · obtain ⟨y, rfl, y0, y1⟩ := hprime n hn'
    refine wpAny_tests_one (wpAny_isTrue_Compare1 (wpAny_BinOp (nmF (c := cW) (hW1.keeps k₃) (wpAny_BinOp (nmC (c := L + 1) (hc₁.keeps k₃) (nmL ns₃ hm₃ (mul_int (hm := mul_ok (up100 (us_lt F hm)) (up40 y1)) (PyProof.Rows.mod_int' ?_ (wpAny_Constant_int (eq_int (wpAny_truthy_bool ⟨rfl, ?_⟩)))))))))))
    · have := Nat.mul_pos mpos y0
      have e : (m : Int) * (y : Int) = ((m * y : Nat) : Int) := by rw [Int.natCast_mul]
      rw [e]; omega
    · exact ⟨s₃.heap, _, rfl, fun b o e => e⟩
  · obtain ⟨y, rfl, y0, y1⟩ := hprime n hn'
    refine wpAny_BinOp (nmC (c := L + 1) (hc₁.keeps k₃) (nmL ns₃ hm₃ (mul_int (hm := mul_ok (up100 (us_lt F hm)) (up40 y1)) ⟨⟨_, rfl⟩, ?_⟩)))
    exact ⟨s₃.heap, _, rfl, fun b o e => e⟩
  · rw [filtU] at li₂
    change LiI s₂.heap D (toZ (rowU p q r m)) at li₂
    have K2 : Kp s s₂ := KpB.old k₂ k₁ hL
    have kB : ∀ b o, b ≠ 87 → hB.get? b = some o → s₂.heap.get? b = some o := fun b o hb e => K2 b o (k b o hb e)
    have hR2 := cell87 e87 kB hR
    have hW2 := cell87 e87 kB hW
    obtain ⟨vr, pr, ir⟩ := (li87 e87 kB hlr).ints
    obtain ⟨vd, pd, id'⟩ := li₂.ints
    have hc₂ : s₂.heap.IsCell (L + 1) (some (.int m t)) := by
      obtain ⟨o, e, d⟩ := hc₁
      exact ⟨o, k₂ _ _ (Nat.ne_of_gt (Nat.lt_succ_self _)) e, d⟩
    have nx : Nx s s₂ := x₁.trans nx₂
    have fin : ∀ (s₃ : Shared) (D' : Addr), Nx s₂ s₃ → Kp s₂ s₃ → s₂.heap.get? D' = none ∨ D' = D → LiI s₃.heap D' (toZ (parUn p q r rooted m)) → Q (.ref D') s₃ := fun s₃ D' nx₃ k₃ hD li => by
      refine h s₃ _ ⟨nx₃.os.trans nx.os, fun b => by rw [nx₃.gens, nx.gens]; exact b, fun b o _ e => k₃ b o (K2 b o e)⟩ ⟨D', rfl, li, ?_⟩
      cases z : s.heap.get? D' with
      | none => rfl
      | some o =>
        rcases hD with hD | rfl
        · rw [K2 _ _ z] at hD; cases hD
        · rw [k₁ _ _ z] at fD; cases fD
    have no : ∀ s₃ : Shared, s₃.heap = s₂.heap → s₃.gens = s₂.gens → s₃.os = s₂.os → ¬ (m ∈ rooted ∧ m < wN p q r ∧ wN p q r ∉ rowU p q r m) → Q (.ref D) s₃ := fun s₃ e1 e2 e3 hn => by
      refine fin s₃ D ⟨e2, e3⟩ (fun b o e => by rw [e1]; exact e) (.inr rfl) ?_
      unfold parUn
      rw [if_neg hn, e1]; exact li₂
    refine wpAny_execs_cons (wpAny_Return_some (wpAny_IfExp (wpAny_isTrue_BoolOp (wpAny_allTrue_And_cons (wpAny_isTrue_Compare1 (nmC (c := L + 1) hc₂ (nmF (c := cR) hR2 (PyProof.Rows.in_list_ints pr.isList ir (wpAny_truthy_bool ?_)))))))))
    rw [any_toZ]
    by_cases h1 : m ∈ rooted
    · refine itT (decide_eq_true h1) (wpAny_allTrue_And_cons (wpAny_isTrue_Compare1 (nmC (c := L + 1) hc₂ (nmF (c := cW) hW2 (PyProof.Rows.lt_int (wpAny_truthy_bool ?_))))))
      by_cases h2 : m < wN p q r
      · refine itT (decide_eq_true (by omega)) (wpAny_allTrue_And_cons (wpAny_isTrue_Compare1 (nmF (c := cW) hW2 (nmL ns₂ (upd_self _ _ _) (PyProof.Rows.notin_list_ints pd.isList id' (wpAny_truthy_bool ?_))))))
        rw [any_toZ]
        by_cases h3 : wN p q r ∈ rowU p q r m
        · refine itF (by simp [h3]) (itF rfl (nmL ns₂ (upd_self _ _ _) ?_))
          exact no _ rfl rfl rfl fun z => z.2.2 h3
        · refine itT (by simp [h3]) (wpAny_allTrue_And_nil (itT rfl ?_))
          refine wpAny_BinOp (nmL ns₂ (upd_self _ _ _) (wpAny_List (wpAny_items_cons (nmF (c := cW) hW2 (wpAny_items_nil ⟨by show 1 ≤ sizeLine; rw [sizeLine_eq]; decide, ?_⟩)))))
          have pu : ∀ b o, s₂.heap.get? b = some o → (s₂.heap.push { cls := .type "list", data := .seq ([Value.int (wN p q r : Nat) tw] : List Value).toArray }).get? b = some o := fun b o e => Heap.get?_push_of_some _ e
          have hlen : vd.length ≤ 3 := by
            have := id'.length
            have e : (toZ (rowU p q r m)).length ≤ 3 := by
              simp only [toZ, rowU, List.length_map]; exact List.length_filter_le _ _
            omega
          refine add_li (s := ⟨s₂.heap.push _, _, _, _, _⟩) (pd.at fun o e => pu _ _ e) ⟨0, Heap.get?_push_size _ rfl⟩ (by simp; omega) ?_
          refine fin _ _ ⟨rfl, rfl⟩ (fun b o e => Heap.get?_push_of_some _ (pu b o e)) (.inl ?_) ?_
          · refine Heap.get?_none_of_le ?_
            dsimp only
            rw [Heap.size_push]
            exact Nat.le_succ _
          · have e3 : toZ (parUn p q r rooted m) = toZ (rowU p q r m) ++ [((wN p q r : Nat) : Int)] := by
              unfold parUn
              rw [if_pos ⟨h1, h2, h3⟩]
              simp [toZ]
            rw [e3]
            refine LiI.ofInts (vs := vd ++ [.int (wN p q r : Nat) tw]) ⟨0, ?_⟩ (id'.append (.cons _ _ .nil))
            · have := Heap.get?_push_size (s₂.heap.push { cls := .type "list", data := .seq ([Value.int (wN p q r : Nat) tw] : List Value).toArray }) (o := { cls := .type "list", data := .seq (vd.toArray ++ #[Value.int (wN p q r : Nat) tw]) }) rfl
              simpa using this
      · refine itF (decide_eq_false (by omega)) (itF rfl (nmL ns₂ (upd_self _ _ _) ?_))
        exact no _ rfl rfl rfl fun z => h2 z.2.1
    · refine itF (decide_eq_false h1) (itF rfl (nmL ns₂ (upd_self _ _ _) ?_))
      exact no _ rfl rfl rfl fun z => h1 z.1
end
end Mine
end

section
/-! L9 -/
open PySem PySem.W PySem.Calls PyProof.Rows
set_option maxRecDepth 100000
set_option maxHeartbeats 1000000
namespace Mine
def lE (L : Addr) : Env := newEnv (scopeM (topSt 11)) L mainGlobals (cellsFrom (L + 1) (scopeM (topSt 11)).names []) "law.<locals>." (some 131) (.ref 130) none builtinsNs
section
variable {w : World} {A : Around} {E : Value → Shared → Prop} {s s0 s' : Shared} {mg mb : Str → Option Value} {L : Addr} {m : Str → Option Value}

theorem ne_one {l k : Addr} {x y : Int} {t u : Tok} {Q : Value → Shared → Prop} (ha : s.heap.IsList l #[.int x t]) (hb : s.heap.IsList k #[.int y u]) (hu : A.units < cLine) (h : Q (.bool (!(x == y))) s) :
    wpAny (model prg w) A (compareOp .NotEq (.ref l) (.ref k)) Q E s := by
  refine SeqAt.RcNeAt.lists (e := fun _ => x == y) ha hb rfl hu (fun j h1 h2 => ?_) prg w E Q ?_
  · have : j = 0 := by simpa using h1
    subst this
    exact SeqAt.EqAt.int_int x t y u
  · have : (List.range (#[Value.int x t]).size).all (fun _ => x == y) = (x == y) := by simp
    rw [this]; exact h

/-- a frame's name set, by what the frame keeps -/
theorem Fo.set (F : Fo s0 L m s) {n : Str} {v : Value} {Q : Unit → Shared → Prop} (h : ∀ s', Nx s s' → KpB L s s' → Fo s0 L (upd m n v) s' → Q () s') (hl : (lE L).kindOf n = some .local := by rfl) :
    wpAny (model prg w) A (storeName (lE L) n v) Q E s :=
  stL F.ns (fun s' nx ns k => h s' nx k (F.loc nx ns k)) rfl rfl hl

theorem items3 {l : Addr} {a b c : Value} {Q : List Value → Shared → Prop} (hh : A.handled = none) (hl : s.heap.IsList l #[a, b, c]) (hQ : ∀ h', Heap.ExtBut s.heap.objs.size s.heap h' → Q [a, b, c] { s with heap := h' }) :
    wpAny (model prg w) A (unpackItems (.ref l) 3 none) Q E s := by
  have U := kun_itemsOf (prog := prg) (w := w) (Q := Q) (E := E) hh hl fun h' e => hQ h' e
  have e : (#[a, b, c] : Array Value).size = 3 := rfl
  rw [e] at U
  exact U
theorem unpack3 {l : Addr} {a b c : Value} {px py pz p : Pos} {k : Nat} {Q : Unit → Shared → Prop} (hh : A.handled = none) (hl : s.heap.PlainList l #[a, b, c]) (F : Fo s0 L m s)
    (h : ∀ s', Fo s0 L (upd (upd (upd m "one" a) "other" b) "third" c) s' → Q () s') :
    wpAny (model prg w) A (assign (.Tuple [.Name "one" px, .Name "other" py, .Name "third" pz] k p) (lE L) (.ref l)) Q E s := by
  rw [assign_Tuple]
  refine wpAny_bind (wpAny_standAt ?_)
  unfold unpack
  refine wpAny_bind (wpAny_holding ?_)
  show wpAny _ _ (unpackItems (.ref l) 3 none) _ _ _
  refine items3 hh hl.isList fun h' ext => ?_
  have kk : Kp s { s with heap := h' } := fun b o e => ext b o (Nat.ne_of_lt (Heap.lt_size e)) e
  have F1 : Fo s0 L m { s with heap := h' } := F.nx kk ⟨rfl, rfl⟩
  refine wpAny_assignInOrder_more (assign_Name (F1.set fun s1 x1 k1 F2 => ?_))
  refine wpAny_assignInOrder_more (assign_Name (F2.set fun s2 x2 k2 F3 => ?_))
  refine wpAny_assignInOrder_more (assign_Name (F3.set fun s3 x3 k3 F4 => ?_))
  exact wpAny_assignInOrder_none (h _ F4)
end
end Mine
end

section
/-! L10 -/
open PySem PySem.W PySem.Calls PyProof.Rows
set_option maxRecDepth 100000
set_option maxHeartbeats 4000000
namespace Mine
section
variable {w : World} {A : Around} {E : Value → Shared → Prop} {s s0 s' : Shared} {mg mb : Str → Option Value} {L : Addr} {m : Str → Option Value}
variable {p q r : Nat} {rooted : List Nat} {a b c : Nat}

theorem two_list {h : Heap} {a b : Int} {t u : Tok} {l : Addr} (hp : h.PlainList l #[.int a t, .int b u]) : LiI h l [a, b] := LiI.ofInts (vs := [.int a t, .int b u]) hp (.cons _ _ (.cons _ _ .nil))
theorem three_list {h : Heap} {a b c : Int} {t u v : Tok} {l : Addr} (hp : h.PlainList l #[.int a t, .int b u, .int c v]) : LiI h l [a, b, c] := LiI.ofInts (vs := [.int a t, .int b u, .int c v]) hp (.cons _ _ (.cons _ _ (.cons _ _ .nil)))

theorem one_fits : 1 ≤ sizeLine := by rw [sizeLine_eq]; decide
theorem three_fits : 3 ≤ sizeLine := by rw [sizeLine_eq]; decide

/-- the first check -/
theorem chk1 (F : FactsP p q r) (ha : a ∈ usN p q r) (hb : b ∈ usN p q r) {fD fA : Addr} {ta tb td : Tok} {Q : Flow → Shared → Prop}
    (C : Cb w mg mb s0 (uZ p q r) (parDz p q r rooted) (fun c => c) fD fA) (hd : A.depth + 20 < recursionLimit) (hu : A.units + 100 < cLine) (hh0 : A.handled = none)
    (G : Fo s0 L m s) (m1 : m "down" = some (.ref fD)) (m2 : m "age" = some (.ref fA)) (m3 : m "one" = some (.int a ta)) (m4 : m "other" = some (.int b tb)) (m5 : m "divisor" = some (.int (Nat.gcd a b : Nat) td))
    (h : ∀ s', Fo s0 L m s' → Kx [87] s.heap s'.heap → Q .next s') : wpAny (model prg w) A (exec ((bodyM (topSt 11)).getD 13 noSt) (lE L)) Q E s := by
  have gd := G.gd C.gd
  refine wpAny_If (wpAny_isTrue_Compare1 (wpAny_Call_NameR (nmG gd (n_merge w) ?_)))
  refine callWith_K (h₀ := s.heap) gd.X (kp97 w) (wpAny_items_cons (nmL G.ns m1 (wpAny_items_cons (nmL G.ns m2 (wpAny_items_cons (wpAny_Constant_none (wpAny_items_cons ?_)))))))
  refine wpAny_List (wpAny_items_cons (nmL G.ns m3 (wpAny_items_cons (nmL G.ns m4 (wpAny_items_nil ⟨two_fits _ _, wpAny_items_nil ?_⟩)))))
  have pu : ∀ b' o, s.heap.get? b' = some o → (s.heap.push { cls := .type "list", data := .seq ([Value.int a ta, Value.int b tb] : List Value).toArray }).get? b' = some o := fun b' o e => Heap.get?_push_of_some _ e
  have G1 : Fo s0 L m { s with heap := s.heap.push { cls := .type "list", data := .seq ([Value.int a ta, Value.int b tb] : List Value).toArray } } := G.nx pu ⟨rfl, rfl⟩
  have gd1 := G1.gd C.gd
  refine ⟨gd1.X, ?_⟩
  refine merge_wp (s := { s with heap := s.heap.push _ }) (histD (rooted := rooted) F) (meetD F ha hb (Int.natCast_nonneg _)) (fun e => ?_) (Int.natCast_nonneg _) (fun c _ => parD_len c) uZ_len gd1 G1.tab G1.bare (C.SP.mono G1.k) (C.PP.mono G1.k) (by omega) (by omega) hh0 (two_list ⟨0, Heap.get?_push_size _ rfl⟩) fun s2 D ex2 tab2 li2 => ?_
  · have : a = b := by omega
    subst this; rw [Nat.gcd_self]
  have G2 := G1.ext ex2 tab2
  obtain ⟨t2, hD⟩ := li2.one
  refine wpAny_List (wpAny_items_cons (nmL G2.ns m5 (wpAny_items_nil ⟨one_fits, ?_⟩)))
  have pu2 : ∀ b' o, s2.heap.get? b' = some o → (s2.heap.push { cls := .type "list", data := .seq ([Value.int (Nat.gcd a b : Nat) td] : List Value).toArray }).get? b' = some o := fun b' o e => Heap.get?_push_of_some _ e
  have G3 : Fo s0 L m { s2 with heap := s2.heap.push { cls := .type "list", data := .seq ([Value.int (Nat.gcd a b : Nat) td] : List Value).toArray } } := G2.nx pu2 ⟨rfl, rfl⟩
  refine ne_one (s := { s2 with heap := s2.heap.push _ }) (hD.at fun o e => pu2 _ _ e).isList ⟨_, Heap.get?_push_size _ rfl, rfl, _, rfl⟩ (by omega) (wpAny_truthy_bool (itF (by simp) (wpAny_execs_nil ?_)))
  exact h _ G3 fun b' o hb' e => pu2 _ _ (ex2.keep _ _ hb' (pu _ _ e))

/-- the second check -/
theorem chk2 (F : FactsP p q r) (ha : a ∈ usN p q r) (hb : b ∈ usN p q r) {fU fY : Addr} {ta tb td : Tok} {Q : Flow → Shared → Prop}
    (C : Cb w mg mb s0 (uZ p q r) (parUz p q r rooted) (stU p q r) fU fY) (hd : A.depth + 20 < recursionLimit) (hu : A.units + 100 < cLine) (hh0 : A.handled = none)
    (G : Fo s0 L m s) (m1 : m "up" = some (.ref fU)) (m2 : m "youth" = some (.ref fY)) (m3 : m "one" = some (.int a ta)) (m4 : m "other" = some (.int b tb)) (m5 : m "divisor" = some (.int (Nat.gcd a b : Nat) td))
    (h : ∀ s', Fo s0 L m s' → Kx [87] s.heap s'.heap → Q .next s') : wpAny (model prg w) A (exec ((bodyM (topSt 11)).getD 14 noSt) (lE L)) Q E s := by
  have gd := G.gd C.gd
  refine wpAny_If (wpAny_isTrue_Compare1 (wpAny_Call_NameR (nmG gd (n_merge w) ?_)))
  refine callWith_K (h₀ := s.heap) gd.X (kp97 w) (wpAny_items_cons (nmL G.ns m1 (wpAny_items_cons (nmL G.ns m2 (wpAny_items_cons (wpAny_Constant_none (wpAny_items_cons ?_)))))))
  refine wpAny_List (wpAny_items_cons (nmL G.ns m3 (wpAny_items_cons (nmL G.ns m4 (wpAny_items_nil ⟨two_fits _ _, wpAny_items_nil ?_⟩)))))
  have pu : ∀ b' o, s.heap.get? b' = some o → (s.heap.push { cls := .type "list", data := .seq ([Value.int a ta, Value.int b tb] : List Value).toArray }).get? b' = some o := fun b' o e => Heap.get?_push_of_some _ e
  have G1 : Fo s0 L m { s with heap := s.heap.push { cls := .type "list", data := .seq ([Value.int a ta, Value.int b tb] : List Value).toArray } } := G.nx pu ⟨rfl, rfl⟩
  have gd1 := G1.gd C.gd
  refine ⟨gd1.X, ?_⟩
  refine merge_wp (s := { s with heap := s.heap.push _ }) (histU (rooted := rooted) F) (meetU F ha hb (Int.natCast_nonneg _)) (fun e => ?_) (Int.natCast_nonneg _) (fun c _ => parU_len c) uZ_len gd1 G1.tab G1.bare (C.SP.mono G1.k) (C.PP.mono G1.k) (by omega) (by omega) hh0 (two_list ⟨0, Heap.get?_push_size _ rfl⟩) fun s2 D ex2 tab2 li2 => ?_
  · have : a = b := by omega
    subst this; rw [Nat.lcm_self]
  have G2 := G1.ext ex2 tab2
  obtain ⟨t2, hD⟩ := li2.one
  have g0 : 0 < Nat.gcd a b := Nat.gcd_pos_of_pos_left _ (F.1 a ha).1
  have gfit := us_lt F (F.2.1 a ha b hb).1
  have e0 : (a : Int) * (b : Int) = ((a * b : Nat) : Int) := (Int.natCast_mul a b).symm
  refine wpAny_List (wpAny_items_cons (wpAny_BinOp (wpAny_BinOp (nmL G2.ns m3 (nmL G2.ns m4 (mul_int (hm := mul_ok (up100 (us_lt F ha)) (up100 (us_lt F hb))) (nmL (s := { s2 with toks := s2.toks + 1 }) G2.ns m5 (floordiv_int (by omega) (wpAny_items_nil ⟨one_fits, ?_⟩) (.inl (nat_fit gfit))))))))))
  rw [e0, fdiv_nat]
  have pu2 : ∀ b' o, s2.heap.get? b' = some o → (s2.heap.push { cls := .type "list", data := .seq ([Value.int (a * b / Nat.gcd a b : Nat) (s2.toks + 1)] : List Value).toArray }).get? b' = some o := fun b' o e => Heap.get?_push_of_some _ e
  have G3 : Fo s0 L m ⟨s2.heap.push { cls := .type "list", data := .seq ([Value.int (a * b / Nat.gcd a b : Nat) (s2.toks + 1)] : List Value).toArray }, s2.gens, s2.drawn, s2.toks + 1 + 1, s2.os⟩ := G2.nx pu2 ⟨rfl, rfl⟩
  refine ne_one (s := ⟨s2.heap.push { cls := .type "list", data := .seq ([Value.int (a * b / Nat.gcd a b : Nat) (s2.toks + 1)] : List Value).toArray }, s2.gens, s2.drawn, s2.toks + 1 + 1, s2.os⟩) (hD.at fun o e => pu2 _ _ e).isList ⟨_, Heap.get?_push_size _ rfl, rfl, _, rfl⟩ (by omega) (wpAny_truthy_bool (itF ?_ (wpAny_execs_nil ?_)))
  · have : Nat.lcm a b = a * b / Nat.gcd a b := rfl
    rw [this]; simp
  exact h _ G3 fun b' o hb' e => pu2 _ _ (ex2.keep _ _ hb' (pu _ _ e))
end
end Mine
end

section
/-! L11 -/
open PySem PySem.W PySem.Calls PyProof.Rows
set_option maxRecDepth 100000
set_option maxHeartbeats 4000000
namespace Mine
section
variable {w : World} {A : Around} {E : Value → Shared → Prop} {s s0 s' : Shared} {mg mb : Str → Option Value} {L : Addr} {m : Str → Option Value}
variable {p q r : Nat} {rooted : List Nat} {a b c : Nat}

theorem ff_down_eq {a c : Nat} (h0 : 0 < a) : ((a : Int) = c ∨ ((a : Int) ≤ ((Nat.gcd a c : Nat) : Int) ∧ ((Nat.gcd a c : Nat) : Int) = a)) ↔ c % a = 0 := by
  rw [← Nat.dvd_iff_mod_eq_zero, ← Nat.gcd_eq_left_iff_dvd]
  constructor
  · rintro (h | ⟨_, h⟩)
    · have : a = c := by omega
      subst this; exact Nat.gcd_self a
    · omega
  · intro h
    right
    rw [h]; exact ⟨Int.le_refl _, rfl⟩
theorem ff_up_eq {b c W : Nat} : ((c : Int) = b ∨ (((W / c : Nat) : Int) ≤ ((W / Nat.lcm c b : Nat) : Int) ∧ ((Nat.lcm c b : Nat) : Int) = c)) ↔ c % b = 0 := by
  rw [← Nat.dvd_iff_mod_eq_zero]
  constructor
  · rintro (h | ⟨_, h⟩)
    · have : c = b := by omega
      subst this; exact Nat.dvd_refl _
    · have : Nat.lcm c b = c := by omega
      rw [← this]; exact Nat.dvd_lcm_right c b
  · intro h
    right
    have : Nat.lcm c b = c := Nat.dvd_antisymm (Nat.lcm_dvd (Nat.dvd_refl _) h) (Nat.dvd_lcm_left c b)
    rw [this]; exact ⟨Int.le_refl _, rfl⟩

theorem mod_eq {x y : Nat} : ((x : Int).fmod (y : Int) == 0) = decide (x % y = 0) := by
  rw [fmod_nat]
  by_cases h : x % y = 0
  · simp [h]
  · have : ((x % y : Nat) : Int) ≠ 0 := by omega
    rw [beq_eq_false_iff_ne.mpr this, decide_eq_false h]

/-- the fourth check -/
theorem chk4 (F : FactsP p q r) (ha : a ∈ usN p q r) (hc : c ∈ usN p q r) {fD fA : Addr} {ta tc : Tok} {Q : Flow → Shared → Prop}
    (C : Cb w mg mb s0 (uZ p q r) (parDz p q r rooted) (fun c => c) fD fA) (hd : A.depth + 20 < recursionLimit) (hu : A.units + 100 < cLine) (hh0 : A.handled = none)
    (G : Fo s0 L m s) (m1 : m "down" = some (.ref fD)) (m2 : m "age" = some (.ref fA)) (m3 : m "one" = some (.int a ta)) (m4 : m "third" = some (.int c tc))
    (h : ∀ s', Fo s0 L m s' → Kx [87] s.heap s'.heap → Q .next s') : wpAny (model prg w) A (exec ((bodyM (topSt 11)).getD 16 noSt) (lE L)) Q E s := by
  have gd := G.gd C.gd
  have a0 := (F.1 a ha).1
  refine wpAny_If (wpAny_isTrue_Compare1 (wpAny_Call_NameR (nmG gd (n_ff w) ?_)))
  refine callWith_K (h₀ := s.heap) gd.X (kp111 w) (wpAny_items_cons (nmL G.ns m1 (wpAny_items_cons (nmL G.ns m2 (wpAny_items_cons (wpAny_Constant_none (wpAny_items_cons (nmL G.ns m3 (wpAny_items_cons (nmL G.ns m4 (wpAny_items_nil ⟨gd.X, ?_⟩)))))))))))
  refine ff_wp (histD (rooted := rooted) F) (meetD F ha hc (Int.le_refl _)) (fun c _ => parD_len c) uZ_len gd G.tab G.bare (C.SP.mono G.k) (C.PP.mono G.k) (by omega) (by omega) hh0 fun s2 bb ex2 tab2 hbb => ?_
  have G2 := G.ext ex2 tab2
  refine wpAny_Compare1 (wpAny_BinOp (nmL G2.ns m4 (nmL G2.ns m3 (PyProof.Rows.mod_int' (by omega) (wpAny_Constant_int (eq_int ?_))))))
  rw [mod_eq]
  have e : bb = decide (c % a = 0) := by
    rw [Bool.eq_iff_iff, hbb, decide_eq_true_iff]; exact ff_down_eq a0
  refine SeqAt.RcNeAt.bool_bool _ _ prg w _ _ (wpAny_truthy_bool (itF (by rw [e]; simp) (wpAny_execs_nil ?_)))
  exact h _ (G2.nx (s' := ⟨s2.heap, s2.gens, s2.drawn, s2.toks + 1 + 1, s2.os⟩) (fun _ _ e => e) ⟨rfl, rfl⟩) fun b' o hb' e => ex2.keep _ _ hb' e

/-- the last answer -/
theorem chk5 (F : FactsP p q r) (hb : b ∈ usN p q r) (hc : c ∈ usN p q r) {fU fY : Addr} {tb tc : Tok} {Q : Flow → Shared → Prop}
    (C : Cb w mg mb s0 (uZ p q r) (parUz p q r rooted) (stU p q r) fU fY) (hd : A.depth + 20 < recursionLimit) (hu : A.units + 100 < cLine) (hh0 : A.handled = none)
    (G : Fo s0 L m s) (m1 : m "up" = some (.ref fU)) (m2 : m "youth" = some (.ref fY)) (m3 : m "other" = some (.int b tb)) (m4 : m "third" = some (.int c tc))
    (h : ∀ s', Fo s0 L m s' → Q (.ret (.bool true)) s') : wpAny (model prg w) A (execs ((bodyM (topSt 11)).drop 17) (lE L)) Q E s := by
  have gd := G.gd C.gd
  have b0 := (F.1 b hb).1
  refine wpAny_execs_cons (wpAny_Return_some (wpAny_Compare1 (wpAny_Call_NameR (nmG gd (n_ff w) ?_))))
  refine callWith_K (h₀ := s.heap) gd.X (kp111 w) (wpAny_items_cons (nmL G.ns m1 (wpAny_items_cons (nmL G.ns m2 (wpAny_items_cons (wpAny_Constant_none (wpAny_items_cons (nmL G.ns m4 (wpAny_items_cons (nmL G.ns m3 (wpAny_items_nil ⟨gd.X, ?_⟩)))))))))))
  refine ff_wp (histU (rooted := rooted) F) (meetU F hc hb (Int.le_refl _)) (fun c _ => parU_len c) uZ_len gd G.tab G.bare (C.SP.mono G.k) (C.PP.mono G.k) (by omega) (by omega) hh0 fun s2 bb ex2 tab2 hbb => ?_
  have G2 := G.ext ex2 tab2
  refine wpAny_Compare1 (wpAny_BinOp (nmL G2.ns m4 (nmL G2.ns m3 (PyProof.Rows.mod_int' (by omega) (wpAny_Constant_int (eq_int ?_))))))
  rw [mod_eq]
  have e : bb = decide (c % b = 0) := by
    rw [Bool.eq_iff_iff, hbb, decide_eq_true_iff]; exact ff_up_eq
  refine SeqAt.RcAt.bool_bool _ _ prg w _ _ ?_
  have e2 : (bb == decide (c % b = 0)) = true := by rw [e]; simp
  rw [e2]
  exact h _ (G2.nx (s' := ⟨s2.heap, s2.gens, s2.drawn, s2.toks + 1 + 1, s2.os⟩) (fun _ _ e => e) ⟨rfl, rfl⟩)
end
end Mine
end

section
/-! L12 -/
open PySem PySem.W PySem.Calls PyProof.Rows
set_option maxRecDepth 100000
set_option maxHeartbeats 4000000
namespace Mine
section
variable {w : World} {A : Around} {E : Value → Shared → Prop} {s s0 s' : Shared} {mg mb : Str → Option Value} {L : Addr} {m : Str → Option Value}
variable {p q r : Nat} {rooted : List Nat} {a b c : Nat}

theorem notin2 {t : Addr} {x y z : Int} {tx ty tz : Tok} {Q : Value → Shared → Prop} (ht : IsTup s.heap t #[.int x tx, .int y ty]) (h : Q (.bool (!((x == z) || (y == z)))) s) :
    wpAny (model prg w) A (compareOp .NotIn (.int z tz) (.ref t)) Q E s := by
  refine SeqAt.notIn_tupleAt (items := #[.int x tx, .int y ty]) (fun v => match v with | .int n _ => n == z | _ => false) ht (fun v hv => ?_) ?_
  · have : v = .int x tx ∨ v = .int y ty := by simpa using hv
    rcases this with rfl | rfl <;> exact SeqAt.EqAt.int_int _ _ _ _
  · simpa using h

/-- the third check -/
theorem chk3 (F : FactsP p q r) (ha : a ∈ usN p q r) (hb : b ∈ usN p q r) (hc : c ∈ usN p q r) {fD fA : Addr} {ta tb tc td : Tok} {Q : Flow → Shared → Prop}
    (C : Cb w mg mb s0 (uZ p q r) (parDz p q r rooted) (fun c => c) fD fA) (hd : A.depth + 20 < recursionLimit) (hu : A.units + 100 < cLine) (hh0 : A.handled = none)
    (G : Fo s0 L m s) (m1 : m "down" = some (.ref fD)) (m2 : m "age" = some (.ref fA)) (m3 : m "one" = some (.int a ta)) (m4 : m "other" = some (.int b tb)) (m5 : m "third" = some (.int c tc)) (m6 : m "divisor" = some (.int (Nat.gcd a b : Nat) td))
    (h : ∀ s', Fo s0 L m s' → Kx [87] s.heap s'.heap → Q .next s') : wpAny (model prg w) A (exec ((bodyM (topSt 11)).getD 15 noSt) (lE L)) Q E s := by
  have same : ∀ s' : Shared, s'.heap = s.heap → s'.gens = s.gens → s'.os = s.os → Fo s0 L m s' := fun s' e1 e2 e3 => G.nx (fun b o e => by rw [e1]; exact e) ⟨e2, e3⟩
  refine wpAny_If (wpAny_isTrue_BoolOp (wpAny_allTrue_And_cons (wpAny_isTrue_Compare1 (nmL G.ns m3 (nmL G.ns m4 (ne_int (wpAny_truthy_bool ?_)))))))
  by_cases h1 : a = b
  · refine itF (by simp [h1]) (itF rfl (wpAny_execs_nil ?_))
    exact h _ G fun b o _ e => e
  refine itT (by simp; omega) (wpAny_allTrue_And_cons (wpAny_isTrue_Compare1 (nmL G.ns m5 (wpAny_Tuple (wpAny_items_cons (nmL G.ns m3 (wpAny_items_cons (nmL G.ns m4 (wpAny_items_nil ⟨two_fits _ _, ?_⟩)))))))))
  have pu : ∀ b' o, s.heap.get? b' = some o → (s.heap.push { cls := .type "tuple", data := .seq ([Value.int a ta, Value.int b tb] : List Value).toArray }).get? b' = some o := fun b' o e => Heap.get?_push_of_some _ e
  have G1 : Fo s0 L m { s with heap := s.heap.push { cls := .type "tuple", data := .seq ([Value.int a ta, Value.int b tb] : List Value).toArray } } := G.nx pu ⟨rfl, rfl⟩
  refine notin2 (s := { s with heap := s.heap.push _ }) ⟨_, Heap.get?_push_size _ rfl, rfl, _, rfl⟩ (wpAny_truthy_bool ?_)
  by_cases h2 : a = c ∨ b = c
  · refine itF ?_ (itF rfl (wpAny_execs_nil ?_))
    · rcases h2 with h2 | h2 <;> simp [h2]
    · exact h _ G1 fun b o _ e => pu b o e
  refine itT ?_ (wpAny_allTrue_And_cons (wpAny_isTrue_Compare1 ?_))
  · have n1 : ¬ (a : Int) = c := by omega
    have n2 : ¬ (b : Int) = c := by omega
    simp [n1, n2]
  have gd1 := G1.gd C.gd
  refine wpAny_Call_NameR (nmG (s := { s with heap := s.heap.push _ }) gd1 (n_octo w) ?_)
  refine callWith_K (h₀ := s.heap) (G.gd C.gd).X (kp104 w) (wpAny_items_cons (nmL (s := { s with heap := s.heap.push _ }) G1.ns m1 (wpAny_items_cons (nmL (s := { s with heap := s.heap.push _ }) G1.ns m2 (wpAny_items_cons (wpAny_Constant_none (wpAny_items_cons ?_)))))))
  refine wpAny_List (wpAny_items_cons (nmL (s := { s with heap := s.heap.push _ }) G1.ns m3 (wpAny_items_cons (nmL (s := { s with heap := s.heap.push _ }) G1.ns m4 (wpAny_items_cons (nmL (s := { s with heap := s.heap.push _ }) G1.ns m5 (wpAny_items_nil ⟨three_fits, wpAny_items_nil ?_⟩)))))))
  generalize hH1 : s.heap.push { cls := .type "tuple", data := .seq ([Value.int a ta, Value.int b tb] : List Value).toArray } = H1 at *
  have pu1 : ∀ b' o, H1.get? b' = some o → (H1.push { cls := .type "list", data := .seq ([Value.int a ta, Value.int b tb, Value.int c tc] : List Value).toArray }).get? b' = some o := fun b' o e => Heap.get?_push_of_some _ e
  have G2 : Fo s0 L m { s with heap := H1.push { cls := .type "list", data := .seq ([Value.int a ta, Value.int b tb, Value.int c tc] : List Value).toArray } } := G1.nx pu1 ⟨rfl, rfl⟩
  have gd2 := G2.gd C.gd
  refine ⟨gd2.X, ?_⟩
  have C2 : Cb w mg mb { s with heap := H1.push { cls := .type "list", data := .seq ([Value.int a ta, Value.int b tb, Value.int c tc] : List Value).toArray } } (uZ p q r) (parDz p q r rooted) (fun c => c) fD fA :=
    ⟨gd2, C.SP.mono G2.k, C.PP.mono G2.k, C.pl, C.hU, fun z => by
      cases q' : s0.heap.get? 89 with
      | none => exact C.e89 q'
      | some o => rw [G2.k 89 o (by decide) q'] at z; cases z⟩
  have g1 : Nat.gcd b a ∈ usN p q r := (F.2.1 b hb a ha).1
  refine octo_wp (s := { s with heap := H1.push _ }) (histD (rooted := rooted) F) C2 (meetD F hb ha (Int.natCast_nonneg _)) (meetD F hc g1 (Int.natCast_nonneg _)) (Int.natCast_nonneg _) (Int.natCast_nonneg _) G2.tab G2.bare (by omega) (by omega) hh0 (three_list ⟨0, Heap.get?_push_size _ rfl⟩) fun s3 D ex3 tab3 li3 => ?_
  have G3 := G2.ext ex3 tab3
  obtain ⟨t3, hD⟩ := li3.one
  have gd3 := G3.gd C.gd
  refine wpAny_List (wpAny_items_cons (wpAny_Call_NameR (nmG gd3 (n_div w) (callWith_K (h₀ := s3.heap) gd3.X (kp126 w) (wpAny_items_cons (nmL G3.ns m6 (wpAny_items_cons (nmL G3.ns m5 (wpAny_items_nil ⟨gd3.X, ?_⟩)))))))))
  refine div_wp (a := Nat.gcd a b) (b := c) gd3 (by omega) hh0 fun s4 t4 x4 k4 => ?_
  have G4 := G3.nx k4 x4
  refine wpAny_items_nil ⟨one_fits, ?_⟩
  have pu4 : ∀ b' o, s4.heap.get? b' = some o → (s4.heap.push { cls := .type "list", data := .seq ([Value.int (Nat.gcd (Nat.gcd a b) c : Nat) t4] : List Value).toArray }).get? b' = some o := fun b' o e => Heap.get?_push_of_some _ e
  have G5 : Fo s0 L m { s4 with heap := s4.heap.push { cls := .type "list", data := .seq ([Value.int (Nat.gcd (Nat.gcd a b) c : Nat) t4] : List Value).toArray } } := G4.nx pu4 ⟨rfl, rfl⟩
  have eg : Nat.gcd c (Nat.gcd b a) = Nat.gcd (Nat.gcd a b) c := by rw [Nat.gcd_comm c, Nat.gcd_comm b a]
  refine ne_one (s := { s4 with heap := s4.heap.push _ }) (hD.at fun o e => pu4 _ _ (k4 _ _ e)).isList ⟨_, Heap.get?_push_size _ rfl, rfl, _, rfl⟩ (by omega) (wpAny_truthy_bool (itF (by rw [eg]; simp) (itF rfl (wpAny_execs_nil ?_))))
  exact h _ G5 fun b' o hb' e => pu4 _ _ (k4 _ _ (ex3.keep _ _ hb' (pu1 _ _ (pu _ _ e))))

/-- the checks, all of them -/
theorem checks (F : FactsP p q r) (ha : a ∈ usN p q r) (hb : b ∈ usN p q r) (hc : c ∈ usN p q r) {fD fA fU fY lN : Addr} {ta tb tc : Tok} {Q : Flow → Shared → Prop}
    (C1 : Cb w mg mb s0 (uZ p q r) (parDz p q r rooted) (fun c => c) fD fA) (C2 : Cb w mg mb s0 (uZ p q r) (parUz p q r rooted) (stU p q r) fU fY) (hd : A.depth + 20 < recursionLimit) (hu : A.units + 100 < cLine) (hh0 : A.handled = none)
    (G : Fo s0 L m s) (m1 : m "down" = some (.ref fD)) (m2 : m "age" = some (.ref fA)) (m3 : m "up" = some (.ref fU)) (m4 : m "youth" = some (.ref fY)) (m5 : m "numbers" = some (.ref lN)) (hl : s.heap.PlainList lN #[.int a ta, .int b tb, .int c tc])
    (h : ∀ s' m', Fo s0 L m' s' → Q (.ret (.bool true)) s') : wpAny (model prg w) A (execs ((bodyM (topSt 11)).drop 11) (lE L)) Q E s := by
  refine wpAny_execs_cons (Assign_Tuple (nmL G.ns m5 (unpack3 hh0 hl G fun s1 G1 => ?_)))
  have gd1 := G1.gd C1.gd
  refine wpAny_execs_cons (wpAny_Assign_Name (wpAny_Call_NameR (nmG gd1 (n_div w) (callWith_K (h₀ := s1.heap) gd1.X (kp126 w) (wpAny_items_cons (nmL G1.ns rfl (wpAny_items_cons (nmL G1.ns rfl (wpAny_items_nil ⟨gd1.X, ?_⟩)))))))))
  refine div_wp (a := a) (b := b) gd1 (by omega) hh0 fun s2 t2 x2 k2 => ?_
  refine (G1.nx k2 x2).set fun s3 x3 k3 G3 => ?_
  refine wpAny_execs_cons (chk1 F ha hb C1 hd hu hh0 G3 m1 m2 rfl rfl rfl fun s4 G4 _ => ?_)
  refine wpAny_execs_cons (chk2 F ha hb C2 hd hu hh0 G4 m3 m4 rfl rfl rfl fun s5 G5 _ => ?_)
  refine wpAny_execs_cons (chk3 F ha hb hc C1 hd hu hh0 G5 m1 m2 rfl rfl rfl rfl fun s6 G6 _ => ?_)
  refine wpAny_execs_cons (chk4 F ha hc C1 hd hu hh0 G6 m1 m2 rfl rfl fun s7 G7 _ => ?_)
  exact chk5 F hb hc C2 hd hu hh0 G7 m3 m4 rfl rfl fun s8 G8 => h s8 _ G8
end
end Mine
end

section
/-! L13 -/
open PySem PySem.W PySem.Calls PyProof.Rows
set_option maxRecDepth 100000
set_option maxHeartbeats 4000000
namespace Mine
theorem small3 : Builtin.Range.small 0 3 1 = true := by decide +kernel
theorem size3 : Builtin.Range.rangeSize 0 3 1 = 3 := by decide +kernel

/-- the frame of law before its defs -/
structure Lf (s0 : Shared) (L : Addr) (m cm : Str → Option Value) (s : Shared) : Prop where
  k : Kp s0 s
  nx : Nx s0 s
  ns : s.heap.Ns L m
  cell : ∀ n c, (lE L).cells.lookup n = some c → s.heap.IsCell c (cm n)
  fL : s0.heap.get? L = none
  fc : ∀ n c, (lE L).cells.lookup n = some c → s0.heap.get? c = none
  ap : (lE L).cells.Pairwise fun x y => x.2 ≠ y.2
section
variable {w : World} {A : Around} {E : Value → Shared → Prop} {s s0 s' : Shared} {mg mb : Str → Option Value} {L : Addr} {m m' cm : Str → Option Value}

theorem range3 {t : Tok} {K : Value → Shared → Prop} (h : ∀ s' I, Nx s s' → Kp s s' → IsRangeIter s'.heap I 0 3 1 → s.heap.get? I = none → K (.ref I) s') :
    wpAny (model prg w) A (call (.type "range") [.int 3 t]) (fun xv s₁ => wpAny (model prg w) A (pyIter xv) K E s₁) E s := by
  refine call_range_1 ?_
  refine wpAny_pyIter_range (IsRange.new ..) small3 ?_
  rw [size3]
  refine h _ _ ⟨rfl, rfl⟩ (fun b o e => Heap.get?_push_of_some _ (Heap.get?_push_of_some _ e)) (Heap.get?_push_size _ rfl) ?_
  refine Heap.get?_none_of_le ?_
  dsimp only
  rw [Heap.size_push]
  exact Nat.le_succ _

theorem Lf.kp (x : Lf s0 L m cm s) (k : Kp s s') (nx : Nx s s') : Lf s0 L m cm s' :=
  ⟨fun b o e => k b o (x.k b o e), x.nx.trans nx, x.ns.keeps k, fun n c h => (x.cell n c h).keeps k, x.fL, x.fc, x.ap⟩
theorem Lf.gd (x : Lf s0 L m cm s) (gd : Gd w mg mb s0.heap) : Gd w mg mb s.heap := gd.keeps x.k
theorem Lf.loc (x : Lf s0 L m cm s) (nx : Nx s s') (ns : s'.heap.Ns L m') (k : KpB L s s') : Lf s0 L m' cm s' := by
  obtain ⟨oL, _, _, eL, dL, _⟩ := x.ns
  refine ⟨fun b o e => k b o (fun z => by rw [z, x.fL] at e; cases e) (x.k b o e), x.nx.trans nx, ns, fun n c h => ?_, x.fL, x.fc, x.ap⟩
  obtain ⟨o, e, d⟩ := x.cell n c h
  exact ⟨o, k _ _ (ne_kd e eL (by simp [kd, d, dL])) e, d⟩
theorem Lf.set (x : Lf s0 L m cm s) {n : Str} {v : Value} {Q : Unit → Shared → Prop} (h : ∀ s', Nx s s' → KpB L s s' → Lf s0 L (upd m n v) cm s' → Q () s') (hl : (lE L).kindOf n = some .local := by rfl) :
    wpAny (model prg w) A (storeName (lE L) n v) Q E s :=
  stL x.ns (fun s' nx ns k => h s' nx k (x.loc nx ns k)) rfl rfl hl
theorem Lf.setC (x : Lf s0 L m cm s) {n : Str} {c : Addr} {v : Value} {Q : Unit → Shared → Prop} (h : ∀ s', Nx s s' → (∀ b o, b ≠ c → s.heap.get? b = some o → s'.heap.get? b = some o) → Lf s0 L m (upd cm n v) s' → Q () s')
    (hl : (lE L).kindOf n = some .cell := by rfl) (hc : (lE L).cells.lookup n = some c := by rfl) :
    wpAny (model prg w) A (storeName (lE L) n v) Q E s := by
  refine wpAny_storeName_cell (c := c) rfl hl hc (x.cell n c hc) fun h' c' sb => ?_
  have k : ∀ b o, b ≠ c → s.heap.get? b = some o → h'.get? b = some o := fun b o hb e => (sb.2 b hb).trans e
  obtain ⟨oc, ec, dc⟩ := x.cell n c hc
  refine h ⟨h', _, _, _, _⟩ ⟨rfl, rfl⟩ k ⟨fun b o e => k b o (fun z => by rw [z, x.fc n c hc] at e; cases e) (x.k b o e), ⟨x.nx.gens, x.nx.os⟩, ?_, fun n' c2 h2 => ?_, x.fL, x.fc, x.ap⟩
  · obtain ⟨oL, es, ep, eL, dL, rL⟩ := x.ns
    exact ⟨oL, es, ep, k _ _ (ne_kd eL ec (by simp [kd, dc, dL])) eL, dL, rL⟩
  · by_cases e : n' = n
    · subst e
      rw [hc] at h2; cases h2
      rw [upd_self]; exact c'
    · rw [upd_ne _ _ e]
      obtain ⟨o2, e2, d2⟩ := x.cell n' c2 h2
      exact ⟨o2, k _ _ (fun z => e (name_of_addr x.ap (mem_of_lookup h2) (z ▸ mem_of_lookup hc))) e2, d2⟩

/-- statements 0 and 1: start and step -/
theorem law01 {ls : Addr} {ns : List Int} {Q : Flow → Shared → Prop} (gd : Gd w mg mb s0.heap) (hd : A.depth + 20 < recursionLimit) (hl : LsI s0.heap ls ns) (hz : (ns.length : Int) < 2 ^ 63)
    (F : Lf s0 L m cm s) (m1 : m "script" = some (.ref ls))
    (h : ∀ s' t u, Lf s0 L m (upd (upd cm "start" (.int ((ns.getD 0 0).fmod 8) t)) "step" (.int (1 + (ns.getD 1 0).fmod 3) u)) s' → wpAny (model prg w) A (execs ((bodyM (topSt 11)).drop 2) (lE L)) Q E s') :
    wpAny (model prg w) A (execs (bodyM (topSt 11)) (lE L)) Q E s := by
  have gd0 := F.gd gd
  refine wpAny_execs_cons (wpAny_Assign_Name (wpAny_BinOp (wpAny_Call_NameR (nmG gd0 (n_at w) (callWith_K (h₀ := s.heap) gd0.X (kp119 w) (wpAny_items_cons (nmL F.ns m1 (wpAny_items_cons (wpAny_Constant_int (wpAny_items_cons (wpAny_Constant_int (wpAny_items_nil ⟨gd0.X, ?_⟩))))))))))))
  refine at_wp (k := 0) (s := ⟨s.heap, _, _, _, _⟩) gd0 (by omega) (hl.keeps F.k) hz fun s1 t1 x1 k1 => ?_
  have F1 : Lf s0 L m cm s1 := F.kp k1 ⟨x1.gens, x1.os⟩
  refine wpAny_Constant_int (PyProof.Rows.mod_int' (by decide) ?_)
  have F1' : Lf s0 L m cm ⟨s1.heap, s1.gens, s1.drawn, s1.toks + 1 + 1, s1.os⟩ := F1.kp (fun _ _ e => e) ⟨rfl, rfl⟩
  refine F1'.setC fun s2 x2 k2 F2 => ?_
  have gd2 := F2.gd gd
  refine wpAny_execs_cons (wpAny_Assign_Name (wpAny_BinOp (wpAny_Constant_int (wpAny_BinOp ?_))))
  refine wpAny_Call_NameR (nmG (s := ⟨s2.heap, _, _, _, _⟩) gd2 (n_at w) (callWith_K (h₀ := s2.heap) gd2.X (kp119 w) (wpAny_items_cons (nmL (s := ⟨s2.heap, _, _, _, _⟩) F2.ns m1 (wpAny_items_cons (wpAny_Constant_int (wpAny_items_cons (wpAny_Constant_int (wpAny_items_nil ⟨gd2.X, ?_⟩)))))))))
  refine at_wp (k := 1) (s := ⟨s2.heap, _, _, _, _⟩) gd2 (by omega) (hl.keeps F2.k) hz fun s3 t3 x3 k3 => ?_
  have F3 : Lf s0 L m _ s3 := F2.kp k3 ⟨x3.gens, x3.os⟩
  refine wpAny_Constant_int (PyProof.Rows.mod_int' (by decide) (PyProof.Rows.add_int ?_))
  have F3' : Lf s0 L m _ ⟨s3.heap, s3.gens, s3.drawn, s3.toks + 1 + 1 + 1, s3.os⟩ := F3.kp (fun _ _ e => e) ⟨rfl, rfl⟩
  refine F3'.setC fun s4 x4 k4 F4 => ?_
  exact h s4 _ _ F4
end
end Mine
end

section
/-! L14 -/
open PySem PySem.W PySem.Calls PyProof.Rows
set_option maxRecDepth 100000
set_option maxHeartbeats 4000000
namespace Mine
theorem prAt {j : Nat} (h : j < 8) : ∃ t, (#[Value.int 2 432, .int 3 433, .int 5 434, .int 7 435, .int 11 436, .int 13 437, .int 1000003 438, .int 999999937 439] : Array Value)[j]? = some (.int (prN j : Nat) t) := by
  match j, h with
  | 0, _ => exact ⟨432, rfl⟩
  | 1, _ => exact ⟨433, rfl⟩
  | 2, _ => exact ⟨434, rfl⟩
  | 3, _ => exact ⟨435, rfl⟩
  | 4, _ => exact ⟨436, rfl⟩
  | 5, _ => exact ⟨437, rfl⟩
  | 6, _ => exact ⟨438, rfl⟩
  | 7, _ => exact ⟨439, rfl⟩
def FR (f : Nat → Nat) (v y : Value) : Prop := ∃ (i : Nat) (t u : Tok), v = .int i t ∧ y = .int (f i : Nat) u
theorem paired3 {f : Nat → Nat} {vs ys : List Value} (hl : vs.length = 3) (hP : ∀ j v, vs[j]? = some v → ∃ t, v = Value.int (j : Nat) t) (h : Paired (FR f) vs ys) : IntsAre ys (toZ [f 0, f 1, f 2]) := by
  match vs, hl with
  | [a, b, c], _ =>
    obtain ⟨ta, ea⟩ := hP 0 a rfl
    obtain ⟨tb, eb⟩ := hP 1 b rfl
    obtain ⟨tc, ec⟩ := hP 2 c rfl
    subst ea eb ec
    cases h with
    | cons h1 h =>
      cases h with
      | cons h2 h =>
        cases h with
        | cons h3 h =>
          cases h
          obtain ⟨i1, _, u1, e1, rfl⟩ := h1
          obtain ⟨i2, _, u2, e2, rfl⟩ := h2
          obtain ⟨i3, _, u3, e3, rfl⟩ := h3
          have f1 : i1 = 0 := by
            have := (Value.int.inj e1).1
            omega
          have f2 : i2 = 1 := by
            have := (Value.int.inj e2).1
            omega
          have f3 : i3 = 2 := by
            have := (Value.int.inj e3).1
            omega
          subst f1 f2 f3
          exact .cons _ _ (.cons _ _ (.cons _ _ .nil))
section
variable {w : World} {A : Around} {E : Value → Shared → Prop} {s s0 s' : Shared} {mg mb : Str → Option Value} {L : Addr} {m m' cm : Str → Option Value}

/-- statement 2: the primes -/
theorem law2 {a b : Nat} {t u : Tok} {Q : Flow → Shared → Prop} (gd : Gd w mg mb s0.heap) (hd : A.depth + 20 < recursionLimit) (hh0 : A.handled = none) (F : Lf s0 L m cm s) (c1 : cm "start" = some (.int a t)) (c2 : cm "step" = some (.int b u)) (hb4 : b < 4)
    (h : ∀ s' lp, Lf s0 L m (upd cm "primes" (.ref lp)) s' → LiI s'.heap lp (toZ [prN ((a + b * 0) % 8), prN ((a + b * 1) % 8), prN ((a + b * 2) % 8)]) → s0.heap.get? lp = none → Q .next s') :
    wpAny (model prg w) A (exec ((bodyM (topSt 11)).getD 2 noSt) (lE L)) Q E s := by
  have gd0 := F.gd gd
  refine wpAny_Assign_Name (wpAny_ListComp_free (fun _ => true) (FR fun i => prN ((a + b * i) % 8)) rfl (by decide) rfl (by decide) rfl ?_)
  refine wpAny_Call_NameR (nmB gd0 (n_range w) b_range (by decide) (PyProof.Rows.callWith_type1 (wpAny_items_cons (wpAny_Constant_int (wpAny_items_nil ?_)))))
  refine range3 fun s1 I x1 k1 hI fI => ?_
  have F1 : Lf s0 L m cm s1 := F.kp k1 ⟨x1.gens, x1.os⟩
  have sI := F.k
  have nI : ∀ {b o}, s0.heap.get? b = some o → b ≠ I := fun e z => by
    have := F.k _ _ e
    rw [z] at this
    rw [show ({ s with toks := s.toks + 1 } : Shared).heap.get? I = none from fI] at this; cases this
  have IL : I ≠ L := fun z => by
    obtain ⟨o, _, _, e, _⟩ := F.ns
    rw [z] at fI
    rw [show ({ s with toks := s.toks + 1 } : Shared).heap.get? L = none from fI] at e; cases e
  have cI : ∀ n c, (lE L).cells.lookup n = some c → c ≠ I := fun n c hc z => by
    obtain ⟨o, e, _⟩ := F.cell n c hc
    rw [z] at e
    rw [show ({ s with toks := s.toks + 1 } : Shared).heap.get? I = none from fI] at e; cases e
  refine ⟨I, _, _, _, _, _, rfl, (Walks.range hh0 I 0 1 3).bound, by rw [sizeLine_eq]; decide, ?_, ?_, ⟨?_, ?_⟩, ?_⟩
  · show IsRangeIter s1.heap I (0 + ((0 : Nat) : Int) * 1) (((3 : Nat) : Int) - ((0 : Nat) : Int)) 1
    exact hI
  · intro b hb
    rw [List.mem_singleton.mp hb]
    exact Heap.lt_size hI
  · intro C i v s₃ m₃ E' _ hP hn hm hk _
    exact wpAny_tests_nil ⟨rfl, s₃.heap, s₃.toks, rfl, fun _ _ e => e⟩
  · intro C i v s₃ m₃ E' _ hP _ hn hm hk _
    obtain ⟨hi, tv, rfl⟩ := hP
    have hm' : m₃ "k" = some (.int ((0 : Int) + (i : Int) * 1) tv) := hm
    have e0 : (0 : Int) + (i : Int) * 1 = (i : Int) := by omega
    rw [e0] at hm'
    have cs : ∀ {n c v}, (lE L).cells.lookup n = some c → cm n = some v → s₃.heap.IsCell c (some v) := fun {n c v} hc hv => by
      obtain ⟨o, e, d⟩ := F1.cell n c hc
      rw [hv] at d
      exact ⟨o, hk _ _ (by simpa using cI n c hc) e, d⟩
    have k3 : ∀ b o, s0.heap.get? b = some o → s₃.heap.get? b = some o := fun b o e => hk _ _ (by simpa using nI e) (F1.k _ _ e)
    have gd3 := gd.keeps k3
    have hpl : s₃.heap.IsList 112 #[.int 2 432, .int 3 433, .int 5 434, .int 7 435, .int 11 436, .int 13 437, .int 1000003 438, .int 999999937 439] := ⟨_, gd3.X 112 _ (k112 w), rfl, _, rfl⟩
    have e1 : (a : Int) + (b : Int) * (i : Int) = ((a + b * i : Nat) : Int) := by rw [Int.natCast_add, Int.natCast_mul]
    have hj : (a + b * i) % 8 < 8 := Nat.mod_lt _ (by decide)
    obtain ⟨tj, hjt⟩ := prAt hj
    refine Subscript_ (nmG gd3 (n_primes w) (wpAny_BinOp (wpAny_BinOp (nmC (cs (n := "start") rfl c1) (wpAny_BinOp (nmC (cs (n := "step") rfl c2) (nmL hn hm' (mul_int (hm := ?_) (PyProof.Rows.add_int (wpAny_Constant_int (PyProof.Rows.mod_int' (by decide) ?_)))))))))))
    · rw [e1]
      have e8 : ((a + b * i : Nat) : Int).fmod 8 = (((a + b * i) % 8 : Nat) : Int) := fmod_nat _ 8
      rw [e8]
      refine subscriptTail_builtin (typeIs_list hpl rfl) slot_list_getitem.lookup (wpAny_getItem_list hpl (Int.natCast_nonneg _) (by omega) (by rw [Int.toNat_natCast]; exact hjt) ?_)
      exact ⟨⟨i, tv, tj, by rw [e0], rfl⟩, s₃.heap, _, rfl, fun _ _ e => e⟩
    · exact mul_ok (Nat.lt_of_lt_of_le hb4 (by decide)) (Nat.lt_of_lt_of_le hi (by decide))
  · intro D h' tk ys vs hD _ hpl hlen hP hF hk
    have F2 : Lf s0 L m cm ⟨h', s1.gens, s1.drawn, tk, s1.os⟩ := by
      refine ⟨fun b o e => hk _ _ (by simpa using nI e) (F1.k _ _ e), ⟨F1.nx.gens, F1.nx.os⟩, ?_, fun n c hc => ?_, F1.fL, F1.fc, F1.ap⟩
      · obtain ⟨oL, es, ep, eL, r⟩ := F1.ns
        exact ⟨oL, es, ep, hk _ _ (by simpa using IL.symm) eL, r⟩
      · obtain ⟨o, e, d⟩ := F1.cell n c hc
        exact ⟨o, hk _ _ (by simpa using cI n c hc) e, d⟩
    have hD0 : s0.heap.get? D = none := by
      cases z : s0.heap.get? D with
      | none => rfl
      | some o => rw [F1.k _ _ z] at hD; cases hD
    have hF' : Paired (FR fun i => prN ((a + b * i) % 8)) vs ys.toList := by
      have : vs.filter (fun _ => true) = vs := by simp
      rw [this] at hF; exact hF
    have ii := paired3 hlen (fun j v hv => by
      obtain ⟨_, t', e⟩ := hP j v hv
      exact ⟨t', by rw [e]; congr 1; omega⟩) hF'
    have hDc : ∀ c, (lE L).cells.lookup (Str.ofString "primes") = some c → D ≠ c := fun c hc z => by
      obtain ⟨o, e, _⟩ := F1.cell _ c hc
      rw [← z, hD] at e; cases e
    refine F2.setC fun s3 x3 k3 F3 => ?_
    refine h s3 D F3 (LiI.ofInts (vs := ys.toList) ?_ ii) hD0
    have : h'.PlainList D ys.toList.toArray := by simpa using hpl
    exact this.at fun o e => k3 _ _ (hDc _ rfl) e
end
end Mine
end

section
/-! L15 -/
open PySem PySem.W PySem.Calls PyProof.Rows
set_option maxRecDepth 100000
set_option maxHeartbeats 4000000
namespace Mine
theorem us_mem {p q r : Nat} {e0 e1 e2 : Nat} (h0 : e0 < 3) (h1 : e1 < 2) (h2 : e2 < 2) : p ^ e0 * q ^ e1 * r ^ e2 ∈ usN p q r := by
  have c0 : e0 = 0 ∨ e0 = 1 ∨ e0 = 2 := by omega
  have c1 : e1 = 0 ∨ e1 = 1 := by omega
  have c2 : e2 = 0 ∨ e2 = 1 := by omega
  rcases c0 with rfl | rfl | rfl <;> rcases c1 with rfl | rfl <;> rcases c2 with rfl | rfl <;> simp [usN, Nat.pow_two]
theorem fm {n : Int} {k : Nat} (hk : 0 < k) : ∃ e : Nat, n.fmod k = (e : Int) ∧ e < k := by
  have h1 := Int.fmod_nonneg_of_pos n (show (0 : Int) < k by omega)
  have h2 := Int.fmod_lt_of_pos n (show (0 : Int) < k by omega)
  exact ⟨(n.fmod k).toNat, by omega, by omega⟩
theorem p200 {x e k : Nat} (hx : x < 2 ^ 40) (he : e ≤ 2) : x ^ e ≤ 2 ^ 80 := by
  have c : e = 0 ∨ e = 1 ∨ e = 2 := by omega
  have h40 : x ≤ 2 ^ 40 := Nat.le_of_lt hx
  rcases c with rfl | rfl | rfl
  · rw [Nat.pow_zero]; exact Nat.one_le_two_pow
  · rw [Nat.pow_one]; exact Nat.le_trans h40 (Nat.pow_le_pow_right (by decide) (by decide))
  · exact Nat.le_trans (Nat.pow_le_pow_left h40 2) (by rw [← Nat.pow_mul]; exact Nat.le_refl _)
section
variable {w : World} {A : Around} {E : Value → Shared → Prop} {s s0 s' : Shared} {mg mb : Str → Option Value} {L : Addr} {m m' cm : Str → Option Value}
variable {p q r : Nat}

theorem pow_nat {x e : Nat} {t u : Tok} {Q : Value → Shared → Prop} (hx : x < 2 ^ 40) (h0 : 0 < x) (he : e ≤ 2) (h : ∀ t' tk, Q (.int (x ^ e : Nat) t') { s with toks := tk }) : wpAny (model prg w) A (binaryOp .Pow (.int x t) (.int e u)) Q E s := by
  by_cases e0 : e = 0
  · subst e0
    exact AutoIntOps.pow_0 (by decide) (by decide) (h _ _)
  · by_cases x1 : x = 1
    · subst x1
      have := h s.toks (s.toks + 1)
      rw [Nat.one_pow] at this
      exact AutoIntOps.pow_1 (by omega) (by simpa using e0) (by decide) this
    · have b1 : Builtin.Int.intBits x ≤ 64 := intBits_le_64 (by omega) (by omega)
      have big : Builtin.Int.intTooBig (((Builtin.Int.intBits x : Nat) : Int) * (e : Int)) = false := by
        have h2 : Builtin.Int.intBits (x : Int) * e ≤ 64 * 2 := Nat.mul_le_mul b1 he
        unfold Builtin.Int.intTooBig bitsLine
        refine decide_eq_false ?_
        have : ((Builtin.Int.intBits (x : Int) : Nat) : Int) * (e : Int) = ((Builtin.Int.intBits (x : Int) * e : Nat) : Int) := (Int.natCast_mul _ _).symm
        omega
      have := h s.toks (s.toks + 1)
      rw [Int.natCast_pow] at this
      refine AutoIntOps.pow_4 (by omega) (by simpa using e0) (by simp; omega) (by simp) (by rw [big]; simp) ?_
      rw [Int.toNat_natCast]
      exact this

/-- statement 3: whole -/
theorem law3 (FP : FactsP p q r) {lp : Addr} {t1 t2 t3 : Tok} {Q : Flow → Shared → Prop} (F : Lf s0 L m cm s) (c1 : cm "primes" = some (.ref lp)) (hp : s.heap.PlainList lp #[.int p t1, .int q t2, .int r t3]) (nl : ∀ c, (lE L).cells.lookup (Str.ofString "whole") = some c → lp ≠ c)
    (h : ∀ s' t, Lf s0 L m (upd cm "whole" (.int (wN p q r : Nat) t)) s' → s'.heap.PlainList lp #[.int p t1, .int q t2, .int r t3] → Q .next s') :
    wpAny (model prg w) A (exec ((bodyM (topSt 11)).getD 3 noSt) (lE L)) Q E s := by
  have hc : ∀ s' : Shared, s'.heap = s.heap → s'.heap.IsCell _ (some (.ref lp)) := fun s' e => by rw [e, ← c1]; exact F.cell "primes" _ rfl
  have hi : ∀ s' : Shared, s'.heap = s.heap → s'.heap.IsList lp #[.int p t1, .int q t2, .int r t3] := fun s' e => by rw [e]; exact hp.isList
  have up40 : ∀ {y : Nat}, y < 2 ^ 40 → y < 2 ^ 200 := fun h => Nat.lt_of_lt_of_le h (Nat.pow_le_pow_right (by decide) (by decide))
  have hp4 := FP.2.2.2.2.2.2.1
  have hq4 := FP.2.2.2.2.2.2.2.1
  have hr4 := FP.2.2.2.2.2.2.2.2
  have hpp : p * p < 2 ^ 200 := Nat.lt_of_lt_of_le (Nat.mul_lt_mul'' hp4 hp4) (by decide)
  have hppq : p * p * q < 2 ^ 200 := Nat.lt_of_lt_of_le (Nat.mul_lt_mul'' (Nat.mul_lt_mul'' hp4 hp4) hq4) (by decide)
  refine wpAny_Assign_Name (wpAny_BinOp (wpAny_BinOp (wpAny_BinOp (Subscript_ (nmC (hc _ rfl) (wpAny_Constant_int (subscriptTail_builtin (typeIs_list (hi _ rfl) rfl) slot_list_getitem.lookup (wpAny_getItem_list (hi _ rfl) (by decide) (by decide) rfl ?_))))))))
  refine Subscript_ (nmC (hc _ rfl) (wpAny_Constant_int (subscriptTail_builtin (typeIs_list (hi _ rfl) rfl) slot_list_getitem.lookup (wpAny_getItem_list (hi _ rfl) (by decide) (by decide) rfl (mul_int (hm := mul_ok (up40 hp4) (up40 hp4)) ?_)))))
  refine Subscript_ (nmC (hc _ rfl) (wpAny_Constant_int (subscriptTail_builtin (typeIs_list (hi _ rfl) rfl) slot_list_getitem.lookup (wpAny_getItem_list (hi _ rfl) (by decide) (by decide) rfl (mul_int (hm := ?_) ?_)))))
  · refine Subscript_ (nmC (hc _ rfl) (wpAny_Constant_int (subscriptTail_builtin (typeIs_list (hi _ rfl) rfl) slot_list_getitem.lookup (wpAny_getItem_list (hi _ rfl) (by decide) (by decide) rfl (mul_int (hm := ?_) ?_)))))
    · have e : (p : Int) * p * q * r = ((wN p q r : Nat) : Int) := by simp [wN]
      show wpAny _ _ (storeName _ _ (.int ((p : Int) * p * q * r) _)) _ _ _
      rw [e]
      have F1 := F.kp (s' := ⟨s.heap, s.gens, s.drawn, s.toks + 1 + 1 + 1 + 1 + 1 + 1 + 1, s.os⟩) (fun _ _ e => e) ⟨rfl, rfl⟩
      refine F1.setC fun s2 x2 k2 F2 => ?_
      exact h s2 _ F2 (hp.at fun o e => k2 _ _ (nl _ rfl) e)
    · have e : (p : Int) * p * q = ((p * p * q : Nat) : Int) := by simp
      show IntMulOk ((p : Int) * p * q) r
      rw [e]
      exact mul_ok hppq (up40 hr4)
  · have e : (p : Int) * p = ((p * p : Nat) : Int) := by simp
    show IntMulOk ((p : Int) * p) q
    rw [e]
    exact mul_ok hpp (up40 hq4)
end
end Mine
end

section
/-! L16a -/
open PySem PySem.W PySem.Calls PyProof.Rows
set_option maxRecDepth 100000
set_option maxHeartbeats 400000
namespace Mine
def nFor : Stmt := (bodyM (topSt 11)).getD 5 noSt
def prodE : Expr := match (forBody nFor).getD 1 noSt with
  | .Expr (.Call _ [e] _ _) _ => e
  | _ => .Constant .none 0 ⟨0, 0, 0, 0⟩
def lhsE : Expr → Expr
  | .BinOp l _ _ _ => l
  | e => e
def rhsE : Expr → Expr
  | .BinOp _ _ r _ => r
  | e => e
def fac0 : Expr := lhsE (lhsE prodE)
def fac1 : Expr := rhsE (lhsE prodE)
def fac2 : Expr := rhsE prodE
section
variable {w : World} {A : Around} {E : Value → Shared → Prop} {s : Shared} {L lp : Addr} {m : Str → Option Value} {p q r : Nat} {n : Int} {t1 t2 t3 tn : Tok} {Q : Value → Shared → Prop}

theorem fac0_wp (hp4 : p < 2 ^ 40) (p0 : 0 < p) (hc : s.heap.IsCell (L + 1 + 1 + 1) (some (.ref lp))) (hI : s.heap.IsList lp #[.int p t1, .int q t2, .int r t3]) (ns : s.heap.Ns L m) (hn : m "number" = some (.int n tn))
    (h : ∀ (e : Nat) t tk, e < 3 → Q (.int (p ^ e : Nat) t) { s with toks := tk }) : wpAny (model prg w) A (eval fac0 (lE L)) Q E s := by
  obtain ⟨e0, he0, l0⟩ := fm (n := n) (k := 3) (by decide)
  refine wpAny_BinOp (Subscript_ (nmC (c := L + 1 + 1 + 1) hc (wpAny_Constant_int (subscriptTail_builtin (s := { s with toks := s.toks + 1 }) (typeIs_list hI rfl) slot_list_getitem.lookup (wpAny_getItem_list (s := { s with toks := s.toks + 1 }) hI (by decide) (by decide) rfl ?_)))))
  refine wpAny_BinOp (nmL (s := { s with toks := s.toks + 1 }) ns hn (wpAny_Constant_int (PyProof.Rows.mod_int' (by decide) ?_)))
  rw [show n.fmod 3 = (e0 : Int) from he0]
  exact pow_nat hp4 p0 (by omega) fun t tk => h e0 t tk l0
theorem fac1_wp (hq4 : q < 2 ^ 40) (q0 : 0 < q) (hc : s.heap.IsCell (L + 1 + 1 + 1) (some (.ref lp))) (hI : s.heap.IsList lp #[.int p t1, .int q t2, .int r t3]) (ns : s.heap.Ns L m) (hn : m "number" = some (.int n tn))
    (h : ∀ (e : Nat) t tk, e < 2 → Q (.int (q ^ e : Nat) t) { s with toks := tk }) : wpAny (model prg w) A (eval fac1 (lE L)) Q E s := by
  obtain ⟨e0, he0, l0⟩ := fm (n := n.fdiv 3) (k := 2) (by decide)
  refine wpAny_BinOp (Subscript_ (nmC (c := L + 1 + 1 + 1) hc (wpAny_Constant_int (subscriptTail_builtin (s := { s with toks := s.toks + 1 }) (typeIs_list hI rfl) slot_list_getitem.lookup (wpAny_getItem_list (s := { s with toks := s.toks + 1 }) hI (by decide) (by decide) rfl ?_)))))
  refine wpAny_BinOp (wpAny_BinOp (nmL (s := { s with toks := s.toks + 1 }) ns hn (wpAny_Constant_int (floordiv_int (by decide) (wpAny_Constant_int (PyProof.Rows.mod_int' (by decide) ?_)) (.inl (PyProof.noPylong_small (by decide)))))))
  rw [show (n.fdiv 3).fmod 2 = (e0 : Int) from he0]
  exact pow_nat hq4 q0 (by omega) fun t tk => h e0 t tk l0
theorem fac2_wp (hr4 : r < 2 ^ 40) (r0 : 0 < r) (hc : s.heap.IsCell (L + 1 + 1 + 1) (some (.ref lp))) (hI : s.heap.IsList lp #[.int p t1, .int q t2, .int r t3]) (ns : s.heap.Ns L m) (hn : m "number" = some (.int n tn))
    (h : ∀ (e : Nat) t tk, e < 2 → Q (.int (r ^ e : Nat) t) { s with toks := tk }) : wpAny (model prg w) A (eval fac2 (lE L)) Q E s := by
  obtain ⟨e0, he0, l0⟩ := fm (n := n.fdiv 6) (k := 2) (by decide)
  refine wpAny_BinOp (Subscript_ (nmC (c := L + 1 + 1 + 1) hc (wpAny_Constant_int (subscriptTail_builtin (s := { s with toks := s.toks + 1 }) (typeIs_list hI rfl) slot_list_getitem.lookup (wpAny_getItem_list (s := { s with toks := s.toks + 1 }) hI (by decide) (by decide) rfl ?_)))))
  refine wpAny_BinOp (wpAny_BinOp (nmL (s := { s with toks := s.toks + 1 }) ns hn (wpAny_Constant_int (floordiv_int (by decide) (wpAny_Constant_int (PyProof.Rows.mod_int' (by decide) ?_)) (.inl (PyProof.noPylong_small (by decide)))))))
  rw [show (n.fdiv 6).fmod 2 = (e0 : Int) from he0]
  exact pow_nat hr4 r0 (by omega) fun t tk => h e0 t tk l0
end
end Mine
end

section
/-! L16c -/
open PySem PySem.W PySem.Calls PyProof.Rows
set_option maxRecDepth 100000
set_option maxHeartbeats 400000
namespace Mine
theorem b80 {x e y f : Nat} (hx : x < 2 ^ 40) (he : e ≤ 2) (hy : y < 2 ^ 40) (hf : f ≤ 2) : x ^ e * y ^ f < 2 ^ 200 := by
  have h1 := p200 (k := 0) hx he
  have h2 := p200 (k := 0) hy hf
  have h3 : x ^ e * y ^ f ≤ 2 ^ 80 * 2 ^ 80 := Nat.mul_le_mul h1 h2
  rw [← Nat.pow_add] at h3
  exact Nat.lt_of_le_of_lt h3 (Nat.pow_lt_pow_right (by decide) (by decide))
theorem b40 {x e : Nat} (hx : x < 2 ^ 40) (he : e ≤ 2) : x ^ e < 2 ^ 200 :=
  Nat.lt_of_le_of_lt (p200 (k := 0) hx he) (Nat.pow_lt_pow_right (by decide) (by decide))
section
variable {w : World} {A : Around} {E : Value → Shared → Prop} {s : Shared} {L lp : Addr} {m : Str → Option Value} {p q r : Nat} {n : Int} {t1 t2 t3 tn : Tok} {Q : Value → Shared → Prop}
theorem prod_wp (FP : FactsP p q r) (hc : s.heap.IsCell (L + 1 + 1 + 1) (some (.ref lp))) (hI : s.heap.IsList lp #[.int p t1, .int q t2, .int r t3]) (ns : s.heap.Ns L m) (hn : m "number" = some (.int n tn))
    (h : ∀ (v : Nat) t tk, v ∈ usN p q r → Q (.int (v : Nat) t) { s with toks := tk }) : wpAny (model prg w) A (eval prodE (lE L)) Q E s := by
  have hp4 := FP.2.2.2.2.2.2.1
  have hq4 := FP.2.2.2.2.2.2.2.1
  have hr4 := FP.2.2.2.2.2.2.2.2
  refine wpAny_BinOp (wpAny_BinOp ?_)
  refine fac0_wp hp4 FP.2.2.1 hc hI ns hn fun e0 ta ka l0 => ?_
  refine fac1_wp (s := { s with toks := ka }) hq4 FP.2.2.2.1 hc hI ns hn fun e1 tb kb l1 => ?_
  refine mul_int (hm := mul_ok (b40 hp4 (by omega)) (b40 hq4 (by omega))) ?_
  rw [← Int.natCast_mul]
  generalize hv : p ^ e0 * q ^ e1 = v
  refine fac2_wp (s := { s with toks := kb + 1 }) hr4 FP.2.2.2.2.1 hc hI ns hn fun e2 tc kc l2 => ?_
  refine mul_int (hm := mul_ok (by rw [← hv]; exact b80 hp4 (by omega) hq4 (by omega)) (b40 hr4 (by omega))) ?_
  rw [← Int.natCast_mul]
  exact h (v * r ^ e2) _ _ (by rw [← hv]; exact us_mem l0 l1 l2)
end
end Mine
end

section
/-! L16 -/
open PySem PySem.W PySem.Calls PyProof.Rows
set_option maxRecDepth 100000
set_option maxHeartbeats 600000
namespace Mine
section
variable {w : World} {A : Around} {E : Value → Shared → Prop} {s s0 s' : Shared} {mg mb : Str → Option Value} {L : Addr} {m m' cm : Str → Option Value}
variable {p q r : Nat}

/-- something apart from the frame -/
structure Apart (s0 : Shared) (L : Addr) (a : Addr) : Prop where
  f0 : s0.heap.get? a = none
  nL : a ≠ L
  nc : ∀ n c, (lE L).cells.lookup n = some c → a ≠ c
theorem Lf.fresh (F : Lf s0 L m cm s) {a : Addr} (h : s.heap.get? a = none) : Apart s0 L a := by
  refine ⟨?_, fun z => ?_, fun n c hc z => ?_⟩
  · cases q : s0.heap.get? a with
    | none => rfl
    | some o => rw [F.k _ _ q] at h; cases h
  · obtain ⟨o, _, _, e, _⟩ := F.ns
    rw [← z, h] at e; cases e
  · obtain ⟨o, e, _⟩ := F.cell n c hc
    rw [← z, h] at e; cases e
theorem Lf.bes (F : Lf s0 L m cm s) {a : Addr} (hA : Apart s0 L a) (k : ∀ b o, b ≠ a → s.heap.get? b = some o → s'.heap.get? b = some o) (nx : Nx s s') : Lf s0 L m cm s' := by
  refine ⟨fun b o e => k b o (fun z => by rw [z, hA.f0] at e; cases e) (F.k b o e), F.nx.trans nx, ?_, fun n c hc => ?_, F.fL, F.fc, F.ap⟩
  · obtain ⟨oL, es, ep, eL, r⟩ := F.ns
    exact ⟨oL, es, ep, k _ _ hA.nL.symm eL, r⟩
  · obtain ⟨o, e, d⟩ := F.cell n c hc
    exact ⟨o, k _ _ (hA.nc n c hc).symm e, d⟩

/-- one turn of the loop that makes the numbers -/
theorem num_turn (FP : FactsP p q r) {ls lp lN : Addr} {ns : List Int} {i : Nat} {its : Array Value} {t1 t2 t3 tk : Tok} {Q : Flow → Shared → Prop} (gd : Gd w mg mb s0.heap) (hd : A.depth + 20 < recursionLimit) (hl : LsI s0.heap ls ns) (hz : (ns.length : Int) < 2 ^ 63) (hi : i < 3)
    (F : Lf s0 L m cm s) (m1 : m "script" = some (.ref ls)) (m2 : m "k" = some (.int i tk)) (m3 : m "numbers" = some (.ref lN)) (c1 : cm "primes" = some (.ref lp)) (hp : s.heap.PlainList lp #[.int p t1, .int q t2, .int r t3]) (aP : Apart s0 L lp) (aN : Apart s0 L lN) (hN : s.heap.PlainList lN its) (hpn : lp ≠ lN) (hsz : its.size ≤ 1000)
    (h : ∀ s' v t (x : Value), v ∈ usN p q r → Lf s0 L (upd m "number" x) cm s' → s'.heap.PlainList lN (its.push (.int (v : Nat) t)) → s'.heap.PlainList lp #[.int p t1, .int q t2, .int r t3] → (∀ b o, b ≠ L → b ≠ lN → s.heap.get? b = some o → s'.heap.get? b = some o) → Q .next s') :
    wpAny (model prg w) A (execs (forBody nFor) (lE L)) Q E s := by
  have gd0 := F.gd gd
  have e2 : (2 : Int) + (i : Int) = ((2 + i : Nat) : Int) := by omega
  refine wpAny_execs_cons (wpAny_Assign_Name (wpAny_Call_NameR (nmG gd0 (n_at w) (callWith_K (h₀ := s.heap) gd0.X (kp119 w) (wpAny_items_cons (nmL F.ns m1 (wpAny_items_cons (wpAny_BinOp (wpAny_Constant_int (nmL (s := ⟨s.heap, _, _, _, _⟩) F.ns m2 (PyProof.Rows.add_int ?_)))))))))))
  rw [e2]
  refine wpAny_items_cons (Subscript_ (wpAny_List (wpAny_items_cons (wpAny_Constant_int (wpAny_items_cons (wpAny_Constant_int (wpAny_items_cons (wpAny_Constant_int (wpAny_items_nil ⟨three_fits, ?_⟩)))))))))
  have pu : ∀ b o, s.heap.get? b = some o → (s.heap.push { cls := .type "list", data := .seq ([Value.int 8 (s.toks + 1 + 1), Value.int 4 (s.toks + 1 + 1 + 1), Value.int 9 (s.toks + 1 + 1 + 1 + 1)] : List Value).toArray }).get? b = some o := fun b o e => Heap.get?_push_of_some _ e
  have h8 : (s.heap.push { cls := .type "list", data := .seq ([Value.int 8 (s.toks + 1 + 1), Value.int 4 (s.toks + 1 + 1 + 1), Value.int 9 (s.toks + 1 + 1 + 1 + 1)] : List Value).toArray }).IsList s.heap.objs.size #[Value.int 8 (s.toks + 1 + 1), Value.int 4 (s.toks + 1 + 1 + 1), Value.int 9 (s.toks + 1 + 1 + 1 + 1)] := ⟨_, Heap.get?_push_size _ rfl, rfl, _, rfl⟩
  have dl : ∀ x y z : Tok, ∃ d t, (#[Value.int 8 x, Value.int 4 y, Value.int 9 z] : Array Value)[i]? = some (Value.int d t) := fun x y z => by
    match i, hi with
    | 0, _ => exact ⟨8, x, rfl⟩
    | 1, _ => exact ⟨4, y, rfl⟩
    | 2, _ => exact ⟨9, z, rfl⟩
  obtain ⟨d, td, hd8⟩ := dl (s.toks + 1 + 1) (s.toks + 1 + 1 + 1) (s.toks + 1 + 1 + 1 + 1)
  generalize hH1 : s.heap.push { cls := .type "list", data := .seq ([Value.int 8 (s.toks + 1 + 1), Value.int 4 (s.toks + 1 + 1 + 1), Value.int 9 (s.toks + 1 + 1 + 1 + 1)] : List Value).toArray } = H1 at *
  have F1 : Lf s0 L m cm ⟨H1, s.gens, s.drawn, s.toks + 1 + 1 + 1 + 1 + 1, s.os⟩ := F.kp pu ⟨rfl, rfl⟩
  refine nmL (s := ⟨H1, s.gens, s.drawn, s.toks + 1 + 1 + 1 + 1 + 1, s.os⟩) F1.ns m2 (subscriptTail_builtinR (x := .int d td) (s := ⟨H1, s.gens, s.drawn, s.toks + 1 + 1 + 1 + 1 + 1, s.os⟩) (typeIs_list h8 rfl) slot_list_getitem.lookup (wpAny_getItem_list (s := ⟨H1, s.gens, s.drawn, s.toks + 1 + 1 + 1 + 1 + 1, s.os⟩) h8 (Int.natCast_nonneg _) (by omega) (by rw [Int.toNat_natCast]; exact hd8) ⟨rfl, wpAny_items_nil ?_⟩))
  have gd1 := F1.gd gd
  refine ⟨gd1.X, ?_⟩
  refine at_wp (k := 2 + i) gd1 (by omega) (hl.keeps F1.k) hz fun s2 tq x2 k2 => ?_
  have F2 := F1.kp k2 x2
  refine F2.set fun s3 x3 k3 F3 => ?_
  have kk3 : ∀ b o, b ≠ L → s.heap.get? b = some o → s3.heap.get? b = some o := fun b o hb e => k3 b o hb (k2 b o (pu b o e))
  have hp3 := hp.at fun o e => kk3 _ _ aP.nL e
  have hN3 := hN.at fun o e => kk3 _ _ aN.nL e
  generalize ns.getD (2 + i) d = n at *
  have hc : s3.heap.IsCell (L + 1 + 1 + 1) (some (.ref lp)) := by rw [← c1]; exact F3.cell "primes" _ rfl
  refine wpAny_execs_cons (wpAny_Expr_any (MethodCall_ (nmL F3.ns (show _ = _ from m3) ?_)))
  obtain ⟨nN, eN⟩ := id hN3
  refine getMethod_list_append eN rfl rfl ?_
  refine callWith_method1 (wpAny_items_cons ?_)
  refine prod_wp FP hc hp3.isList F3.ns (upd_self _ _ _) fun v t tk' hv => ?_
  refine wpAny_items_nil ?_
  have F4 : Lf s0 L _ cm { s3 with toks := tk' } := F3.kp (fun _ _ e => e) ⟨rfl, rfl⟩
  refine wpAny_list_append_plain (s := { s3 with toks := tk' }) hN3 (fun h5 hN5 sb5 => ?_) (by rw [sizeLine_eq]; omega)
  have k5 : ∀ b o, b ≠ lN → s3.heap.get? b = some o → h5.get? b = some o := fun b o hb e => (sb5.2 b hb).trans e
  refine wpAny_execs_nil ?_
  exact h ⟨h5, s3.gens, s3.drawn, tk', s3.os⟩ v t _ hv (F4.bes aN k5 ⟨rfl, rfl⟩) hN5 (hp3.at fun o e => k5 _ _ hpn e) fun b o hb hb2 e => k5 b o hb2 (kk3 b o hb e)
end
end Mine
end

section
/-! L17 -/
open PySem PySem.W PySem.Calls PyProof.Rows
set_option maxRecDepth 100000
set_option maxHeartbeats 600000
namespace Mine
section
variable {w : World} {A : Around} {E : Value → Shared → Prop} {s s0 s' : Shared} {mg mb : Str → Option Value} {L : Addr} {m m' cm : Str → Option Value}
variable {p q r : Nat}

theorem law5 (FP : FactsP p q r) {ls lp lN : Addr} {ns : List Int} {t1 t2 t3 : Tok} {Q : Flow → Shared → Prop} (gd : Gd w mg mb s0.heap) (hd : A.depth + 20 < recursionLimit) (hh0 : A.handled = none) (hl : LsI s0.heap ls ns) (hz : (ns.length : Int) < 2 ^ 63)
    (F : Lf s0 L m cm s) (m1 : m "script" = some (.ref ls)) (m3 : m "numbers" = some (.ref lN)) (c1 : cm "primes" = some (.ref lp)) (hp : s.heap.PlainList lp #[.int p t1, .int q t2, .int r t3]) (aP : Apart s0 L lp) (aN : Apart s0 L lN) (hN : s.heap.PlainList lN #[]) (hpn : lp ≠ lN)
    (h : ∀ s' m' its, Lf s0 L m' cm s' → m' "script" = some (.ref ls) → m' "numbers" = some (.ref lN) → s'.heap.PlainList lN its → its.size = 3 → (∀ j, j < 3 → ∃ (v : Nat) (t : Tok), v ∈ usN p q r ∧ its[j]? = some (.int v t)) → s'.heap.PlainList lp #[.int p t1, .int q t2, .int r t3] → Q .next s') :
    wpAny (model prg w) A (exec nFor (lE L)) Q E s := by
  have gd0 := F.gd gd
  refine wpAny_For (wpAny_Call_NameR (nmB gd0 (n_range w) b_range (by decide) (PyProof.Rows.callWith_type1 (wpAny_items_cons (wpAny_Constant_int (wpAny_items_nil ?_))))))
  refine range3 fun s1 I x1 k1 hI fI => ?_
  have F1 : Lf s0 L m cm s1 := F.kp k1 ⟨x1.gens, x1.os⟩
  have aI : Apart s0 L I := F.fresh fI
  have pI : lp ≠ I := fun z => by
    obtain ⟨n, e⟩ := hp
    rw [z] at e
    rw [show ({ s with toks := s.toks + 1 } : Shared).heap.get? I = none from fI] at e; cases e
  have nI : lN ≠ I := fun z => by
    obtain ⟨n, e⟩ := hN
    rw [z] at e
    rw [show ({ s with toks := s.toks + 1 } : Shared).heap.get? I = none from fI] at e; cases e
  have hit0 : IsRangeIter s1.heap I (0 + ((0 : Nat) : Int) * 1) (((3 : Nat) : Int) - ((0 : Nat) : Int)) 1 := hI
  refine codeAny_forLoop (fun n s' => ∃ i m' its, n + i = 3 ∧ Lf s0 L m' cm s' ∧ m' "script" = some (.ref ls) ∧ m' "numbers" = some (.ref lN) ∧ s'.heap.PlainList lN its ∧ its.size = i ∧ (∀ j, j < i → ∃ (v : Nat) (t : Tok), v ∈ usN p q r ∧ its[j]? = some (.int v t)) ∧
      s'.heap.PlainList lp #[.int p t1, .int q t2, .int r t3] ∧ IsRangeIter s'.heap I (0 + (i : Nat) * 1) (((3 : Nat) : Int) - (i : Nat)) 1) ?_ 3
    ⟨0, m, #[], rfl, F1, m1, m3, hN.at fun o e => k1 _ _ e, rfl, fun j hj => absurd hj (Nat.not_lt_zero _), hp.at fun o e => k1 _ _ e, hit0⟩
  rintro n s2 ⟨i, m2, its, hni, F2, n1, n3, hN2, hs2, hv2, hp2, hit⟩
  cases n with
  | zero =>
    have i3 : i = 3 := by omega
    subst i3
    refine (Walks.range hh0 I 0 1 3).done s2 _ _ hit fun h' tk hk => ?_
    have kk : ∀ b o, b ≠ I → s2.heap.get? b = some o → h'.get? b = some o := fun b o hb e => hk b o (by simpa using hb) e
    refine wpAny_execs_nil ?_
    exact h ⟨h', s2.gens, s2.drawn, tk, s2.os⟩ m2 its (F2.bes aI kk ⟨rfl, rfl⟩) n1 n3 (hN2.at fun o e => kk _ _ nI e) hs2 hv2 (hp2.at fun o e => kk _ _ pI e)
  | succ n =>
    have hi : i < 3 := by omega
    refine (Walks.range hh0 I 0 1 3).item i s2 _ _ hi hit fun v h' tk hv st' hk => ?_
    obtain ⟨tv, rfl⟩ := hv
    have e0 : (0 : Int) + (i : Int) * 1 = (i : Int) := by omega
    rw [e0]
    have kk : ∀ b o, b ≠ I → s2.heap.get? b = some o → h'.get? b = some o := fun b o hb e => hk b o (by simpa using hb) e
    have F3 : Lf s0 L m2 cm ⟨h', s2.gens, s2.drawn, tk, s2.os⟩ := F2.bes aI kk ⟨rfl, rfl⟩
    refine assign_Name (F3.set fun s4 x4 k4 F4 => ?_)
    have hN4 := (hN2.at (h' := h') fun o e => kk _ _ nI e).at (h' := s4.heap) fun o e => k4 _ _ aN.nL e
    have hp4 := (hp2.at (h' := h') fun o e => kk _ _ pI e).at (h' := s4.heap) fun o e => k4 _ _ aP.nL e
    refine num_turn FP gd hd hl hz hi F4 (show _ = _ from n1) (upd_self _ _ _) n3 c1 hp4 aP aN hN4 hpn (by omega) fun s5 v t x hv5 F5 hN5 hp5 k5 => ?_
    refine ⟨n, Nat.lt_succ_self _, i + 1, _, _, by omega, F5, n1, n3, hN5, by rw [Array.size_push, hs2], fun j hj => ?_, hp5, k5 _ _ aI.nL nI.symm (k4 _ _ aI.nL st')⟩
    by_cases hlt : j < i
    · obtain ⟨v', t', h1, h2⟩ := hv2 j hlt
      exact ⟨v', t', h1, by rw [Array.getElem?_push_lt (by omega), ← h2, Array.getElem?_eq_getElem]⟩
    · have : j = i := by omega
      subst this
      have z := @Array.getElem?_push_size _ its (.int (v : Nat) t)
      rw [hs2] at z
      exact ⟨v, t, hv5, z⟩
end
end Mine
end

section
/-! L18 -/
open PySem PySem.W PySem.Calls PyProof.Rows
set_option maxRecDepth 100000
set_option maxHeartbeats 600000
namespace Mine
theorem pick02 (a b c : Value) : slicePick #[a, b, c] none (some 2) none = #[a, b] := by
  have e : sliceRange (sliceBounds none (some 2) none 3).1 (sliceBounds none (some 2) none 3).2.1 (sliceBounds none (some 2) none 3).2.2 = [0, 1] := by decide +kernel
  show ((sliceRange (sliceBounds none (some 2) none 3).1 (sliceBounds none (some 2) none 3).2.1 (sliceBounds none (some 2) none 3).2.2).filterMap (#[a, b, c][·]?)).toArray = #[a, b]
  rw [e]; rfl
section
variable {w : World} {A : Around} {E : Value → Shared → Prop} {s s0 s' : Shared} {mg mb : Str → Option Value} {L : Addr} {m m' cm : Str → Option Value}
/-- statement 6: rooted -/
theorem law6 {ls lN : Addr} {ns : List Int} {x y z : Value} {Q : Flow → Shared → Prop} (gd : Gd w mg mb s0.heap) (hd : A.depth + 20 < recursionLimit) (hl : LsI s0.heap ls ns) (hz : (ns.length : Int) < 2 ^ 63)
    (F : Lf s0 L m cm s) (m1 : m "script" = some (.ref ls)) (m3 : m "numbers" = some (.ref lN)) (hN : s.heap.PlainList lN #[x, y, z])
    (h : ∀ s' lr its, Lf s0 L m (upd cm "rooted" (.ref lr)) s' → (its = #[x, y] ∨ its = #[]) → s'.heap.PlainList lr its → (∀ b o, (∀ c, (lE L).cells.lookup (Str.ofString "rooted") = some c → b ≠ c) → s.heap.get? b = some o → s'.heap.get? b = some o) → s0.heap.get? lr = none → Q .next s') :
    wpAny (model prg w) A (exec ((bodyM (topSt 11)).getD 6 noSt) (lE L)) Q E s := by
  have gd0 := F.gd gd
  refine wpAny_Assign_Name (wpAny_IfExp (wpAny_isTrue_Compare1 (wpAny_BinOp (wpAny_Call_NameR (nmG gd0 (n_at w) (callWith_K (h₀ := s.heap) gd0.X (kp119 w) (wpAny_items_cons (nmL F.ns m1 (wpAny_items_cons (wpAny_Constant_int (wpAny_items_cons (wpAny_Constant_int (wpAny_items_nil ⟨gd0.X, ?_⟩)))))))))))))
  refine at_wp (k := 5) (s := ⟨s.heap, _, _, _, _⟩) gd0 (by omega) (hl.keeps F.k) hz fun s1 t1 x1 k1 => ?_
  have F1 : Lf s0 L m cm s1 := F.kp k1 ⟨x1.gens, x1.os⟩
  refine wpAny_Constant_int (PyProof.Rows.mod_int' (by decide) (wpAny_Constant_int (eq_int (wpAny_truthy_bool ?_))))
  have fin : ∀ (s2 : Shared) (D : Addr) (its : Array Value), Nx s1 s2 → Kp s1 s2 → s1.heap.get? D = none → s2.heap.PlainList D its → (its = #[x, y] ∨ its = #[]) → wpAny (model prg w) A (storeName (lE L) "rooted" (.ref D)) (fun _ => Q .next) E s2 := fun s2 D its nx k hD hp ho => by
    have F2 := F1.kp k nx
    have aD := F1.fresh hD
    refine F2.setC fun s3 x3 k3 F3 => ?_
    exact h s3 D its F3 ho (hp.at fun o e => k3 _ _ (aD.nc (Str.ofString "rooted") _ rfl) e) (fun b o hb e => k3 _ _ (hb _ rfl) (k _ _ (k1 _ _ e))) aD.f0
  cases ((ns.getD 5 1).fmod 2 == 1) with
  | true =>
    refine itT rfl ?_
    have hN1 := hN.at (h' := s1.heap) fun o e => k1 _ _ e
    refine wpAny_Subscript_list_slice (nmL (s := ⟨s1.heap, _, _, _, _⟩) F1.ns m3 (wpAny_evalPart_none (wpAny_evalPart_some (wpAny_Constant_int ⟨lN, #[x, y, z], none, some 2, rfl, hN1.isList, three_fits, .none, .int _ _, ?_⟩))))
    rw [pick02]
    refine fin _ _ #[x, y] ⟨rfl, rfl⟩ (fun b o e => Heap.get?_push_of_some _ (Heap.get?_push_of_some _ e)) ?_ ⟨0, ?_⟩ (.inl rfl)
    · exact Heap.get?_none_of_le (Nat.le_succ _)
    · dsimp only
      have e1 : ∀ o, (s1.heap.push o).objs.size = s1.heap.objs.size + 1 := fun o => Heap.size_push ..
      rw [← e1]
      exact Heap.get?_push_size _ rfl
  | false =>
    refine itF rfl (wpAny_List (wpAny_items_nil ⟨Nat.zero_le _, ?_⟩))
    exact fin _ _ #[] ⟨rfl, rfl⟩ (fun b o e => Heap.get?_push_of_some _ e) (fresh_size s1.heap) ⟨0, Heap.get?_push_size _ rfl⟩ (.inr rfl)
end
end Mine
end

section
/-! L19 -/
open PySem PySem.W PySem.Calls PyProof.Rows
set_option maxRecDepth 100000
set_option maxHeartbeats 600000
namespace Mine
def lawEs : List (Pos × Str) := [(posM dnSt, dnQ), (posM upSt, upQ), (posM agSt, agQ), (posM yoSt, yoQ)]
theorem esD : ∀ e ∈ lawEs, e.1.line = (posM dnSt).line ∧ e.1.col = (posM dnSt).col → e = (posM dnSt, dnQ) := by decide +kernel
theorem esU : ∀ e ∈ lawEs, e.1.line = (posM upSt).line ∧ e.1.col = (posM upSt).col → e = (posM upSt, upQ) := by decide +kernel
theorem esA : ∀ e ∈ lawEs, e.1.line = (posM agSt).line ∧ e.1.col = (posM agSt).col → e = (posM agSt, agQ) := by decide +kernel
theorem esY : ∀ e ∈ lawEs, e.1.line = (posM yoSt).line ∧ e.1.col = (posM yoSt).col → e = (posM yoSt, yoQ) := by decide +kernel

/-- the frame of law while its defs are made: the objects in `ks` stay, but for the frame itself and the table 128 -/
structure Lg (h0 : Heap) (L : Addr) (m : Str → Option Value) (s : Shared) : Prop where
  k : ∀ b o, b ≠ 128 → b ≠ L → h0.get? b = some o → s.heap.get? b = some o
  ns : s.heap.Ns L m
  tab : TabOk 130 128 lawEs s.heap
section
variable {w : World} {A : Around} {E : Value → Shared → Prop} {s : Shared} {mg mb : Str → Option Value} {L : Addr} {m : Str → Option Value} {h0 : Heap}
theorem Lg.set (x : Lg h0 L m s) {n : Str} {v : Value} {Q : Unit → Shared → Prop} (h : ∀ s', Nx s s' → KpB L s s' → Lg h0 L (upd m n v) s' → Q () s') (hl : (lE L).kindOf n = some .local := by rfl) :
    wpAny (model prg w) A (storeName (lE L) n v) Q E s :=
  stL x.ns (fun s' nx ns k => by
    obtain ⟨oL, _, _, eL, dL, _⟩ := x.ns
    exact h s' nx k ⟨fun b o h1 h2 e => k b o h2 (x.k b o h1 h2 e), ns, x.tab.mv eL (by simp [kd, dL]) k⟩) rfl rfl hl
theorem Lg.def (x : Lg h0 L m s) {s' : Shared} (k : ∀ b o, b ≠ 128 → s.heap.get? b = some o → s'.heap.get? b = some o) (tab : TabOk 130 128 lawEs s'.heap) (hL : L ≠ 128) : Lg h0 L m s' := by
  obtain ⟨oL, es, ep, eL, r⟩ := x.ns
  exact ⟨fun b o h1 h2 e => k b o h1 (x.k b o h1 h2 e), ⟨oL, es, ep, k _ _ hL eL, r⟩, tab⟩

/-- statement 7: down -/
theorem law7 {Q : Flow → Shared → Prop} (gd : Gd w mg mb s.heap) (F : Lg h0 L m s) (hL : L ≠ 128)
    (h : ∀ s' f c' ctv doc pm, Nx s s' → (∀ b o, b ≠ 128 → b ≠ L → s.heap.get? b = some o → s'.heap.get? b = some o) → Lg h0 L (upd m "down" (.ref f)) s' → s.heap.get? f = none → f ≠ L →
      s'.heap.get? f = some (fnO (fdN dnQ dnSt [("rooted", L + 1 + 1 + 1 + 1), ("primes", L + 1 + 1 + 1)] doc pm c' ctv)) → s'.heap.CodeRec (.ref c') dnQ → Q .next s') :
    wpAny (model prg w) A (exec dnSt (lE L)) Q E s := by
  refine nestDef_K rfl rfl rfl ?_
  refine mkDef gd F.tab (.head _) esD (clos := [("rooted", L + 1 + 1 + 1 + 1), ("primes", L + 1 + 1 + 1)]) rfl rfl rfl fun f c' ctv doc pm s1 x1 k1 hf tab1 ob1 cr1 => ?_
  have fL : f ≠ L := fun z => by
    obtain ⟨oL, _, _, eL, _⟩ := F.ns
    rw [z, eL] at hf; cases hf
  refine (F.def k1 tab1 hL).set fun s2 x2 k2 F2 => ?_
  obtain ⟨oL, _, _, eL, dL, _⟩ := (F.def k1 tab1 hL).ns
  exact h s2 f c' ctv doc pm (x1.trans x2) (fun b o h1 h2 e => k2 b o h2 (k1 b o h1 e)) F2 hf fL (k2 _ _ fL ob1) (CodeRec.mv eL (by simp [kd, dL]) k2 cr1)
end
end Mine
end

section
/-! L20 -/
open PySem PySem.W PySem.Calls PyProof.Rows
set_option maxRecDepth 100000
set_option maxHeartbeats 600000
namespace Mine
section
variable {w : World} {A : Around} {E : Value → Shared → Prop} {s : Shared} {mg mb : Str → Option Value} {L : Addr} {m : Str → Option Value} {h0 : Heap}
/-- statement 8: up -/
theorem law8 {Q : Flow → Shared → Prop} (gd : Gd w mg mb s.heap) (F : Lg h0 L m s) (hL : L ≠ 128)
    (h : ∀ s' f c' ctv doc pm, Nx s s' → (∀ b o, b ≠ 128 → b ≠ L → s.heap.get? b = some o → s'.heap.get? b = some o) → Lg h0 L (upd m "up" (.ref f)) s' → s.heap.get? f = none → f ≠ L →
      s'.heap.get? f = some (fnO (fdN upQ upSt [("whole", L + 1 + 1 + 1 + 1 + 1), ("rooted", L + 1 + 1 + 1 + 1), ("primes", L + 1 + 1 + 1)] doc pm c' ctv)) → s'.heap.CodeRec (.ref c') upQ → Q .next s') :
    wpAny (model prg w) A (exec upSt (lE L)) Q E s := by
  refine nestDef_K rfl rfl rfl ?_
  refine mkDef gd F.tab (.tail _ (.head _)) esU (clos := [("whole", L + 1 + 1 + 1 + 1 + 1), ("rooted", L + 1 + 1 + 1 + 1), ("primes", L + 1 + 1 + 1)]) rfl rfl rfl fun f c' ctv doc pm s1 x1 k1 hf tab1 ob1 cr1 => ?_
  have fL : f ≠ L := fun z => by
    obtain ⟨oL, _, _, eL, _⟩ := F.ns
    rw [z, eL] at hf; cases hf
  refine (F.def k1 tab1 hL).set fun s2 x2 k2 F2 => ?_
  obtain ⟨oL, _, _, eL, dL, _⟩ := (F.def k1 tab1 hL).ns
  exact h s2 f c' ctv doc pm (x1.trans x2) (fun b o h1 h2 e => k2 b o h2 (k1 b o h1 e)) F2 hf fL (k2 _ _ fL ob1) (CodeRec.mv eL (by simp [kd, dL]) k2 cr1)
/-- statement 9: age -/
theorem law9 {Q : Flow → Shared → Prop} (gd : Gd w mg mb s.heap) (F : Lg h0 L m s) (hL : L ≠ 128)
    (h : ∀ s' f c' ctv doc pm, Nx s s' → (∀ b o, b ≠ 128 → b ≠ L → s.heap.get? b = some o → s'.heap.get? b = some o) → Lg h0 L (upd m "age" (.ref f)) s' → s.heap.get? f = none → f ≠ L →
      s'.heap.get? f = some (fnO (fdN agQ agSt [] doc pm c' ctv)) → s'.heap.CodeRec (.ref c') agQ → Q .next s') :
    wpAny (model prg w) A (exec agSt (lE L)) Q E s := by
  refine nestDef_K rfl rfl rfl ?_
  refine mkDef gd F.tab (.tail _ (.tail _ (.head _))) esA (clos := []) rfl rfl rfl fun f c' ctv doc pm s1 x1 k1 hf tab1 ob1 cr1 => ?_
  have fL : f ≠ L := fun z => by
    obtain ⟨oL, _, _, eL, _⟩ := F.ns
    rw [z, eL] at hf; cases hf
  refine (F.def k1 tab1 hL).set fun s2 x2 k2 F2 => ?_
  obtain ⟨oL, _, _, eL, dL, _⟩ := (F.def k1 tab1 hL).ns
  exact h s2 f c' ctv doc pm (x1.trans x2) (fun b o h1 h2 e => k2 b o h2 (k1 b o h1 e)) F2 hf fL (k2 _ _ fL ob1) (CodeRec.mv eL (by simp [kd, dL]) k2 cr1)
/-- statement 10: youth -/
theorem law10 {Q : Flow → Shared → Prop} (gd : Gd w mg mb s.heap) (F : Lg h0 L m s) (hL : L ≠ 128)
    (h : ∀ s' f c' ctv doc pm, Nx s s' → (∀ b o, b ≠ 128 → b ≠ L → s.heap.get? b = some o → s'.heap.get? b = some o) → Lg h0 L (upd m "youth" (.ref f)) s' → s.heap.get? f = none → f ≠ L →
      s'.heap.get? f = some (fnO (fdN yoQ yoSt [("whole", L + 1 + 1 + 1 + 1 + 1)] doc pm c' ctv)) → s'.heap.CodeRec (.ref c') yoQ → Q .next s') :
    wpAny (model prg w) A (exec yoSt (lE L)) Q E s := by
  refine nestDef_K rfl rfl rfl ?_
  refine mkDef gd F.tab (.tail _ (.tail _ (.tail _ (.head _)))) esY (clos := [("whole", L + 1 + 1 + 1 + 1 + 1)]) rfl rfl rfl fun f c' ctv doc pm s1 x1 k1 hf tab1 ob1 cr1 => ?_
  have fL : f ≠ L := fun z => by
    obtain ⟨oL, _, _, eL, _⟩ := F.ns
    rw [z, eL] at hf; cases hf
  refine (F.def k1 tab1 hL).set fun s2 x2 k2 F2 => ?_
  obtain ⟨oL, _, _, eL, dL, _⟩ := (F.def k1 tab1 hL).ns
  exact h s2 f c' ctv doc pm (x1.trans x2) (fun b o h1 h2 e => k2 b o h2 (k1 b o h1 e)) F2 hf fL (k2 _ _ fL ob1) (CodeRec.mv eL (by simp [kd, dL]) k2 cr1)
end
end Mine
end

section
/-! L21 -/
open PySem PySem.W PySem.Calls PyProof.Rows
set_option maxRecDepth 100000
set_option maxHeartbeats 600000
namespace Mine
section
variable {w : World} {A : Around} {E : Value → Shared → Prop} {s s0 : Shared} {mg mb : Str → Option Value} {L : Addr} {m cm : Str → Option Value}
/-- statement 4: numbers -/
theorem law4 {Q : Flow → Shared → Prop} (F : Lf s0 L m cm s)
    (h : ∀ s' lN, Lf s0 L (upd m "numbers" (.ref lN)) cm s' → s'.heap.PlainList lN #[] → Apart s0 L lN → s.heap.get? lN = none → (∀ b o, b ≠ L → s.heap.get? b = some o → s'.heap.get? b = some o) → Q .next s') :
    wpAny (model prg w) A (exec ((bodyM (topSt 11)).getD 4 noSt) (lE L)) Q E s := by
  refine wpAny_Assign_Name (wpAny_List (wpAny_items_nil ⟨Nat.zero_le _, ?_⟩))
  have pu : ∀ b o, s.heap.get? b = some o → (s.heap.push { cls := .type "list", data := .seq ([] : List Value).toArray }).get? b = some o := fun b o e => Heap.get?_push_of_some _ e
  have F1 : Lf s0 L m cm { s with heap := s.heap.push { cls := .type "list", data := .seq ([] : List Value).toArray } } := F.kp pu ⟨rfl, rfl⟩
  have aN := F.fresh (fresh_size s.heap)
  refine F1.set fun s2 x2 k2 F2 => ?_
  exact h s2 _ F2 ⟨0, k2 _ _ aN.nL (Heap.get?_push_size _ rfl)⟩ aN (fresh_size s.heap) fun b o hb e => k2 b o hb (pu b o e)
end
end Mine
end

section
/-! L22 -/
open PySem PySem.W PySem.Calls PyProof.Rows
set_option maxRecDepth 100000
set_option maxHeartbeats 600000
namespace Mine
/-- all stays but the table at P and the frame at L -/
structure Mv (P L : Addr) (h h' : Heap) : Prop where
  tab : ∃ ps, h.get? P = some (tabObj ps) ∧ TriplesOk ps.toList
  fr : ∃ m, h.Ns L m
  k : ∀ b o, b ≠ P → b ≠ L → h.get? b = some o → h'.get? b = some o
section
variable {P L : Addr} {h h' : Heap}
theorem Mv.get (x : Mv P L h h') {a : Addr} {o : Obj} (e : h.get? a = some o) (h3 : kd o.data ≠ 3) (h1 : kd o.data ≠ 1) : h'.get? a = some o := by
  obtain ⟨⟨ps, e2, _⟩, ⟨m, oL, es, ep, eL, dL, _⟩, k⟩ := x
  exact k a o (ne_kd e e2 (by simpa [kd, tabObj] using h3)) (ne_kd e eL (by rw [dL]; simpa [kd] using h1)) e
theorem Mv.li (x : Mv P L h h') {l : Addr} {ns : List Int} (y : LiI h l ns) : LiI h' l ns := by
  obtain ⟨its, ⟨n, e⟩, z⟩ := y
  exact ⟨its, ⟨n, x.get e (by simp [kd]) (by simp [kd])⟩, z⟩
theorem Mv.pl (x : Mv P L h h') {l : Addr} {its : Array Value} (y : h.PlainList l its) : h'.PlainList l its := by
  obtain ⟨n, e⟩ := y
  exact ⟨n, x.get e (by simp [kd]) (by simp [kd])⟩
theorem Mv.cell (x : Mv P L h h') {c : Addr} {v : Option Value} (y : h.IsCell c v) : h'.IsCell c v := by
  obtain ⟨o, e, d⟩ := y
  exact ⟨o, x.get e (by simp [kd, d]) (by simp [kd, d]), d⟩
theorem Mv.fn (x : Mv P L h h') {f : Addr} {fd : FuncData} (y : h.get? f = some (fnO fd)) : h'.get? f = some (fnO fd) :=
  x.get y (by simp [kd, fnO]) (by simp [kd, fnO])
theorem Mv.code (x : Mv P L h h') {cd : Value} {q : Str} (y : h.CodeRec cd q) : h'.CodeRec cd q := by
  obtain ⟨⟨ps, e87, tr⟩, ⟨m, oL, es, ep, eL, dL, _⟩, k⟩ := x
  obtain ⟨c, o, vs, t, e1, e2, e3, e4⟩ := y
  refine ⟨c, o, vs, t, e1, k _ _ (fun z => ?_) (ne_kd e2 eL (by rw [dL, e3]; simp [kd])) e2, e3, e4⟩
  rw [z, e87] at e2
  cases e2
  cases e3
  exact triples_no_str tr e4
theorem TabOk.but {c P P2 : Addr} {es : List (Pos × Str)} {h h' : Heap} {ps2 : Array Value} (x : TabOk c P es h) (hc : c ≠ P2) (hP : P ≠ P2) (e2 : h.get? P2 = some (tabObj ps2)) (tr2 : TriplesOk ps2.toList)
    (k : ∀ b o, b ≠ P2 → h.get? b = some o → h'.get? b = some o) : TabOk c P es h' := by
  obtain ⟨⟨o, vs, file, tf, flags, tg, inF, text, tt, e1, r⟩, ps, e, t, z⟩ := x
  refine ⟨⟨o, vs, file, tf, flags, tg, inF, text, tt, k _ _ hc e1, r⟩, ps, k _ _ hP e, t, fun q hq => (z q hq).imp id fun ⟨c', h1, ⟨c3, o3, vs3, t3, f1, f2, f3, f4⟩⟩ => ⟨c', h1, c3, o3, vs3, t3, f1, k _ _ (fun zz => ?_) f2, f3, f4⟩⟩
  rw [zz, e2] at f2
  cases f2
  cases f3
  exact triples_no_str tr2 f4
theorem TabOk.tb {c P : Addr} {es : List (Pos × Str)} {h : Heap} (x : TabOk c P es h) : ∃ ps, h.get? P = some (tabObj ps) ∧ TriplesOk ps.toList := by
  obtain ⟨_, ps, e, t, _⟩ := x
  exact ⟨ps, e, t⟩
theorem LiI.of3 {l : Addr} {a b c : Int} {t u v : Tok} (x : h.PlainList l #[.int a t, .int b u, .int c v]) : LiI h l [a, b, c] :=
  ⟨_, x, rfl, fun i hi => by
    have : i = 0 ∨ i = 1 ∨ i = 2 := by simp at hi; omega
    rcases this with rfl | rfl | rfl
    · exact ⟨t, rfl⟩
    · exact ⟨u, rfl⟩
    · exact ⟨v, rfl⟩⟩
theorem LiI.of2 {l : Addr} {a b : Int} {t u : Tok} (x : h.PlainList l #[.int a t, .int b u]) : LiI h l [a, b] :=
  ⟨_, x, rfl, fun i hi => by
    have : i = 0 ∨ i = 1 := by simp at hi; omega
    rcases this with rfl | rfl
    · exact ⟨t, rfl⟩
    · exact ⟨u, rfl⟩⟩
theorem LiI.of0 {l : Addr} (x : h.PlainList l #[]) : LiI h l [] := ⟨_, x, rfl, fun i hi => absurd hi (Nat.not_lt_zero _)⟩
end
end Mine
end

section
/-! L23 -/
open PySem PySem.W PySem.Calls PyProof.Rows
set_option maxRecDepth 100000
set_option maxHeartbeats 600000
namespace Mine
section
variable {w : World} {A : Around} {E : Value → Shared → Prop} {s s0 : Shared} {mg mb : Str → Option Value} {L : Addr} {m cm : Str → Option Value} {p q r : Nat} {rooted : List Nat} {a b c : Nat}
theorem Lg.mv {h0 : Heap} (F : Lg h0 L m s) {s' : Shared} (k : ∀ b o, b ≠ 128 → b ≠ L → s.heap.get? b = some o → s'.heap.get? b = some o) : Mv 128 L s.heap s'.heap := ⟨F.tab.tb, ⟨m, F.ns⟩, k⟩

/-- statements 7 and all that follow -/
theorem law_end (FP : FactsP p q r) (ha : a ∈ usN p q r) (hb : b ∈ usN p q r) (hc : c ∈ usN p q r) {lp lr lN : Addr} {ta tb tc tw : Tok} {Q : Flow → Shared → Prop}
    (gd : Gd w mg mb s0.heap) (tab : TabOk 89 87 tabEs s0.heap) (tabL : TabOk 130 128 lawEs s0.heap) (bare : AllBare s0.gens) (hd : A.depth + 20 < recursionLimit) (hu : A.units + 100 < cLine) (hh0 : A.handled = none)
    (F : Lf s0 L m cm s) (c1 : cm "primes" = some (.ref lp)) (c2 : cm "rooted" = some (.ref lr)) (c3 : cm "whole" = some (.int (wN p q r : Nat) tw)) (hlp : LiI s.heap lp (toZ [p, q, r])) (hlr : LiI s.heap lr (toZ rooted))
    (m5 : m "numbers" = some (.ref lN)) (hN : s.heap.PlainList lN #[.int a ta, .int b tb, .int c tc])
    (h : ∀ s', (∀ b o, b ≠ 87 → b ≠ 128 → s0.heap.get? b = some o → s'.heap.get? b = some o) → AllBare s'.gens → s'.os = s0.os → (∃ ps, s'.heap.get? 87 = some (tabObj ps)) → (∃ ps, s'.heap.get? 128 = some (tabObj ps)) → Q (.ret (.bool true)) s') :
    wpAny (model prg w) A (execs ((bodyM (topSt 11)).drop 7) (lE L)) Q E s := by
  have e128 := tabL.tb
  have e87 := tab.tb
  have nL : ∀ {b o}, s0.heap.get? b = some o → b ≠ L := fun e z => by rw [z, F.fL] at e; cases e
  have hL : L ≠ 128 := fun z => by obtain ⟨ps, e, _⟩ := e128; exact nL e z.symm
  have L87 : L ≠ 87 := fun z => by obtain ⟨ps, e, _⟩ := e87; exact nL e z.symm
  have G7 : Lg s.heap L m s := ⟨fun b o _ _ e => e, F.ns, tabL.keeps F.k⟩
  refine wpAny_execs_cons (law7 (F.gd gd) G7 hL fun s8 fD cD ctD docD pmD x8 k8 G8 nD fDL obD crD => ?_)
  have gdk : ∀ {s' : Shared}, (∀ b o, b ≠ 128 → b ≠ L → s.heap.get? b = some o → s'.heap.get? b = some o) → Gd w mg mb s'.heap := fun k => gd.kpT fun b o h1 h2 e => k b o h2 (nL e) (F.k b o e)
  refine wpAny_execs_cons (law8 (gdk G8.k) G8 hL fun s9 fU cU ctU docU pmU x9 k9 G9 nU fUL obU crU => ?_)
  refine wpAny_execs_cons (law9 (gdk G9.k) G9 hL fun s10 fA cA ctA docA pmA x10 k10 G10 nA fAL obA crA => ?_)
  refine wpAny_execs_cons (law10 (gdk G10.k) G10 hL fun s11 fY cY ctY docY pmY x11 k11 G11 nY fYL obY crY => ?_)
  have M8 := G8.mv k9
  have M9 := G9.mv k10
  have M10 := G10.mv k11
  have M7 := G7.mv G11.k
  have Mh : ∀ {h' : Heap}, h' = hideAll s11.heap [L] → Mv 128 L s11.heap h' := fun z => ⟨G11.tab.tb, ⟨_, G11.ns⟩, fun b o _ hb e => by rw [z]; exact hideAll_get [L] e (by simpa using hb)⟩
  generalize hH : hideAll s11.heap [L] = hB at *
  have Mh := Mh rfl
  have hkB : ∀ b o, hB.get? b = some o → s11.heap.get? b = some o := fun b o e => by rw [← hH] at e; exact of_hideAll [L] e
  have hBL : hB.get? L = none := by rw [← hH]; exact hideAll_none [L] (.head _)
  have kB : ∀ b o, b ≠ 128 → s0.heap.get? b = some o → hB.get? b = some o := fun b o h2 e => Mh.k b o h2 (nL e) (G11.k b o h2 (nL e) (F.k b o e))
  have gB : Gd w mg mb hB := gd.kpT fun b o h1 h2 e => kB b o h2 e
  obtain ⟨p128, e128, t128⟩ := e128
  have tabB : TabOk 89 87 tabEs hB := tab.but (by decide) (by decide) e128 t128 kB
  obtain ⟨ps, eB, trB⟩ := tabB.tb
  have tabLB : TabOk 130 128 lawEs hB := by
    obtain ⟨oL, _, _, eL, dL, _⟩ := G11.ns
    exact G11.tab.mv eL (by simp [kd, dL]) fun b o hb e => by rw [← hH]; exact hideAll_get [L] e (by simpa using hb)
  have P1 := Mh.li (M7.li hlp)
  have P2 := Mh.li (M7.li hlr)
  have C1 := Mh.cell (M7.cell (F.cell "primes" (L + 1 + 1 + 1) rfl))
  have C2 := Mh.cell (M7.cell (F.cell "rooted" (L + 1 + 1 + 1 + 1) rfl))
  have C3 := Mh.cell (M7.cell (F.cell "whole" (L + 1 + 1 + 1 + 1 + 1) rfl))
  rw [c1] at C1
  rw [c2] at C2
  rw [c3] at C3
  have kD := down_ok FP gB eB trB (Mh.fn (M10.fn (M9.fn (M8.fn obD)))) (Mh.code (M10.code (M9.code (M8.code crD)))) C1 P1 C2 P2
  have kU := up_ok FP gB eB trB (Mh.fn (M10.fn (M9.fn obU))) (Mh.code (M10.code (M9.code crU))) C1 P1 C2 P2 C3
  have kA := age_ok (uZ p q r) gB eB trB (Mh.fn (M10.fn obA)) (Mh.code (M10.code crA))
  have kY := youth_ok FP gB eB trB (Mh.fn obY) (Mh.code crY) C3
  have e89 : hB.get? 89 ≠ none := by
    obtain ⟨⟨o, vs, file, tf, flags, tg, inF, text, tt, e1, r⟩, _⟩ := tabB
    rw [e1]; exact fun z => nomatch z
  have D1 : Cb w mg mb { s11 with heap := hB } (uZ p q r) (parDz p q r rooted) (fun c => c) fD fA := ⟨gB, kA, kD, fun c _ => parD_len c, uZ_len, e89⟩
  have D2 : Cb w mg mb { s11 with heap := hB } (uZ p q r) (parUz p q r rooted) (stU p q r) fU fY := ⟨gB, kY, kU, fun c _ => parU_len c, uZ_len, e89⟩
  have xs : Nx s0 s11 := F.nx.trans (x8.trans (x9.trans (x10.trans x11)))
  have Fo0 : Fo { s11 with heap := hB } L _ s11 := ⟨fun b o _ e => hkB b o e, by rw [xs.gens]; exact bare, rfl, by
    refine tabB.keeps hkB, G11.ns, hBL, L87, by
    dsimp only
    rw [eB]; exact fun z => nomatch z⟩
  refine checks FP ha hb hc D1 D2 hd hu hh0 Fo0 rfl rfl rfl rfl m5 (M7.pl hN) fun s' m' F' => ?_
  refine h s' (fun b o h1 h2 e => F'.k b o h1 (kB b o h2 e)) F'.bare (F'.os.trans xs.os) ?_ ?_
  · obtain ⟨ps', e', _⟩ := F'.tab.tb
    exact ⟨ps', e'⟩
  · obtain ⟨ps', e', _⟩ := tabLB.tb
    exact ⟨ps', F'.k 128 _ (by decide) e'⟩
end
end Mine
end

section
/-! L24 -/
open PySem PySem.W PySem.Calls PyProof.Rows
set_option maxRecDepth 100000
set_option maxHeartbeats 600000
namespace Mine
section
variable {w : World} {A : Around} {E : Value → Shared → Prop} {s s0 : Shared} {mg mb : Str → Option Value} {L : Addr} {m cm : Str → Option Value}
theorem Lf.apart (F : Lf s0 L m cm s) {l : Addr} {o : Obj} (n : s0.heap.get? l = none) (e : s.heap.get? l = some o) (h1 : kd o.data ≠ 1) (h4 : kd o.data ≠ 4) : Apart s0 L l := by
  refine ⟨n, ?_, fun x c hc => ?_⟩
  · obtain ⟨oL, _, _, eL, dL, _⟩ := F.ns
    exact ne_kd e eL (by rw [dL]; simpa [kd] using h1)
  · obtain ⟨oc, ec, dc⟩ := F.cell x c hc
    exact ne_kd e ec (by rw [dc]; simpa [kd] using h4)
theorem three_of {its : Array Value} {P : Nat → Prop} (hs : its.size = 3) (hv : ∀ j, j < 3 → ∃ (v : Nat) (t : Tok), P v ∧ its[j]? = some (.int v t)) :
    ∃ (x y z : Nat) (t u v : Tok), P x ∧ P y ∧ P z ∧ its = #[.int x t, .int y u, .int z v] := by
  obtain ⟨x, t, h0, e0⟩ := hv 0 (by decide)
  obtain ⟨y, u, h1, e1⟩ := hv 1 (by decide)
  obtain ⟨z, v, h2, e2⟩ := hv 2 (by decide)
  refine ⟨x, y, z, t, u, v, h0, h1, h2, ?_⟩
  apply Array.ext
  · simpa using hs
  · intro i h3 h4
    have : i = 0 ∨ i = 1 ∨ i = 2 := by simp at h4; omega
    rcases this with rfl | rfl | rfl
    · rw [Array.getElem?_eq_getElem h3] at e0; simpa using e0
    · rw [Array.getElem?_eq_getElem h3] at e1; simpa using e1
    · rw [Array.getElem?_eq_getElem h3] at e2; simpa using e2
theorem facts_at {a e : Nat} (ha : a < 8) (he : e < 3) : FactsP (prN ((a + (1 + e) * 0) % 8)) (prN ((a + (1 + e) * 1) % 8)) (prN ((a + (1 + e) * 2) % 8)) := by
  have h := facts_all a (List.mem_range.mpr ha) (1 + e) (by
    have : e = 0 ∨ e = 1 ∨ e = 2 := by omega
    rcases this with rfl | rfl | rfl <;> decide)
  rw [Nat.mul_zero, Nat.add_zero, Nat.mod_eq_of_lt ha, Nat.mul_one]
  exact h

/-- law's text -/
theorem law_body {ls : Addr} {ns : List Int} {Q : Flow → Shared → Prop}
    (gd : Gd w mg mb s0.heap) (tab : TabOk 89 87 tabEs s0.heap) (tabL : TabOk 130 128 lawEs s0.heap) (bare : AllBare s0.gens) (hd : A.depth + 20 < recursionLimit) (hu : A.units + 100 < cLine) (hh0 : A.handled = none)
    (hl : LsI s0.heap ls ns) (hz : (ns.length : Int) < 2 ^ 63) (F : Lf s0 L m cm s) (m1 : m "script" = some (.ref ls))
    (h : ∀ s', (∀ b o, b ≠ 87 → b ≠ 128 → s0.heap.get? b = some o → s'.heap.get? b = some o) → AllBare s'.gens → s'.os = s0.os → (∃ ps, s'.heap.get? 87 = some (tabObj ps)) → (∃ ps, s'.heap.get? 128 = some (tabObj ps)) → Q (.ret (.bool true)) s') :
    wpAny (model prg w) A (execs (bodyM (topSt 11)) (lE L)) Q E s := by
  refine law01 gd hd hl hz F m1 fun s2 t u F2 => ?_
  obtain ⟨a, ea, ha⟩ := fm (n := ns.getD 0 0) (k := 8) (by decide)
  obtain ⟨e, ee, he⟩ := fm (n := ns.getD 1 0) (k := 3) (by decide)
  have ea' : (ns.getD 0 0).fmod 8 = (a : Int) := ea
  have ee' : 1 + (ns.getD 1 0).fmod 3 = ((1 + e : Nat) : Int) := by
    have : (ns.getD 1 0).fmod 3 = (e : Int) := ee
    rw [this]; omega
  rw [ea', ee'] at F2
  have q1 : upd (upd cm "start" (.int a t)) "step" (.int (1 + e : Nat) u) "start" = some (.int a t) := by rw [upd_ne _ _ (by decide)]; exact upd_self ..
  have q2 : upd (upd cm "start" (.int a t)) "step" (.int (1 + e : Nat) u) "step" = some (.int (1 + e : Nat) u) := upd_self ..
  generalize upd (upd cm "start" (.int a t)) "step" (.int (1 + e : Nat) u) = cm2 at F2 q1 q2
  have FP := facts_at ha he
  refine wpAny_execs_cons (law2 gd hd hh0 F2 q1 q2 (by omega) fun s3 lp F3 hlp nlp => ?_)
  generalize prN ((a + (1 + e) * 0) % 8) = p at *
  generalize prN ((a + (1 + e) * 1) % 8) = q at *
  generalize prN ((a + (1 + e) * 2) % 8) = r at *
  obtain ⟨t1, t2, t3, hp3⟩ := LiI.three (a := (p : Int)) (b := (q : Int)) (c := (r : Int)) hlp
  have aP : Apart s0 L lp := by
    obtain ⟨n, e'⟩ := hp3
    exact F3.apart nlp e' (by simp [kd]) (by simp [kd])
  refine wpAny_execs_cons (law3 FP F3 (upd_self ..) hp3 (fun c hc => aP.nc _ c hc) fun s4 tw F4 hp4 => ?_)
  refine wpAny_execs_cons (law4 F4 fun s5 lN F5 hN5 aN nN k5 => ?_)
  have hpn : lp ≠ lN := fun z => by
    obtain ⟨n, e'⟩ := hp4
    rw [z, nN] at e'; cases e'
  refine wpAny_execs_cons (law5 FP gd hd hh0 hl hz F5 (by rw [upd_ne _ _ (by decide)]; exact m1) (upd_self ..) (by rw [upd_ne _ _ (by decide)]; exact upd_self ..) (hp4.at fun o e' => k5 _ _ aP.nL e') aP aN hN5 hpn fun s6 m6 its F6 ms6 mn6 hN6 sz6 hv6 hp6 => ?_)
  obtain ⟨x, y, z, tx, ty, tz, hx, hy, hz6, rfl⟩ := three_of sz6 hv6
  refine wpAny_execs_cons (law6 gd hd hl hz F6 ms6 mn6 hN6 fun s7 lr its7 F7 ho hlr k7 nlr => ?_)
  have hp7 := hp6.at fun o e' => k7 lp o (fun c hc => aP.nc _ c hc) e'
  have hN7 := hN6.at fun o e' => k7 lN o (fun c hc => aN.nc _ c hc) e'
  have w1 : upd (upd (upd cm2 "primes" (.ref lp)) "whole" (.int (wN p q r : Nat) tw)) "rooted" (.ref lr) "primes" = some (.ref lp) := by
    rw [upd_ne _ _ (by decide), upd_ne _ _ (by decide)]; exact upd_self ..
  have w2 : upd (upd (upd cm2 "primes" (.ref lp)) "whole" (.int (wN p q r : Nat) tw)) "rooted" (.ref lr) "whole" = some (.int (wN p q r : Nat) tw) := by
    rw [upd_ne _ _ (by decide)]; exact upd_self ..
  have l3 : LiI s7.heap lp (toZ [p, q, r]) := LiI.of3 (a := (p : Int)) (b := (q : Int)) (c := (r : Int)) hp7
  rcases ho with rfl | rfl
  · exact law_end (rooted := [x, y]) FP hx hy hz6 gd tab tabL bare hd hu hh0 F7 w1 (upd_self ..) w2 l3 (LiI.of2 (a := (x : Int)) (b := (y : Int)) hlr) mn6 hN7 h
  · exact law_end (rooted := []) FP hx hy hz6 gd tab tabL bare hd hu hh0 F7 w1 (upd_self ..) w2 l3 (LiI.of0 hlr) mn6 hN7 h

/-- law, called -/
theorem law_wp {ls : Addr} {ns : List Int} {Q : Value → Shared → Prop}
    (gd : Gd w mg mb s.heap) (tab : TabOk 89 87 tabEs s.heap) (tabL : TabOk 130 128 lawEs s.heap) (bare : AllBare s.gens) (hd : A.depth + 30 < recursionLimit) (hu : A.units + 110 < cLine) (hh0 : A.handled = none)
    (hl : LsI s.heap ls ns) (hz : (ns.length : Int) < 2 ^ 63)
    (h : ∀ s', (∀ b o, b ≠ 87 → b ≠ 128 → s.heap.get? b = some o → s'.heap.get? b = some o) → AllBare s'.gens → s'.os = s.os → (∃ ps, s'.heap.get? 87 = some (tabObj ps)) → (∃ ps, s'.heap.get? 128 = some (tabObj ps)) → Q (.bool true) s') :
    wpAny (model prg w) A (call (.ref 131) [.ref ls]) Q E s := by
  refine callFnC (f := 131) (fd := fdLaw) (body := bodyM (topSt 11)) (binds := [("script", .ref ls)]) (by omega) (gd.X 131 _ (k131 w)) rfl rfl (codeRec_of gd.X (c130 w)) gd.NL rfl (BindsTo.of_eq rfl) (locs rfl) (fun env s1 he x1 => ?_) rfl rfl rfl
  have he' : env = lE s.heap.objs.size := he
  subst he'
  clear he
  have fL : s.heap.get? s.heap.objs.size = none := fresh_size _
  have nx1 : Nx s s1 := by
    obtain ⟨h', tk, rfl, _⟩ := x1.done
    exact ⟨rfl, rfl⟩
  have F1 : Lf s s.heap.objs.size _ _ s1 := ⟨x1.toInCall.keep, nx1, x1.toInCall.ns, x1.cell, fL, fun n c hc => Heap.get?_none_of_le (Nat.le_of_lt (x1.above n c (mem_of_lookup hc))), x1.apart⟩
  exact law_body gd tab tabL bare (by show A.depth + 1 + 20 < _; omega) (by show A.units + 3 + 100 < _; omega) hh0 hl hz F1 rfl h
end
end Mine
end

section
/-! L25 -/
open PySem PySem.W PySem.Calls PyProof.Rows
set_option maxRecDepth 100000
set_option maxHeartbeats 2000000
namespace Mine
theorem n_law (w : World) : nsIn (KK w) mainGlobals "law" = some (some (.ref 131)) := by kernel_rfl
theorem n_bi (w : World) : nsIn (KK w) mainGlobals "__builtins__" = some (some (.ref 4)) := by kernel_rfl
theorem h89 (w : World) : codeHdIn (KK w) 89 87 = true := by kernel_rfl
theorem h130 (w : World) : codeHdIn (KK w) 130 128 = true := by kernel_rfl
theorem TabOk.start {c P : Addr} {es : List (Pos × Str)} {h : Heap} (x : CodeHd h c P) (e : h.get? P = some (tabObj #[])) : TabOk c P es h :=
  ⟨x, #[], e, trivial, fun _ _ => .inl rfl⟩
theorem LsI.ofInts {h : Heap} {l : Addr} {vs : List Value} {ns : List Int} (hp : h.IsList l vs.toArray) (hi : IntsAre vs ns) : LsI h l ns := by
  refine ⟨_, hp, by simpa using hi.length, fun i hi' => ?_⟩
  obtain ⟨t, e⟩ := hi.get i _ (List.getElem?_eq_getElem hi')
  exact ⟨t, by simpa using e⟩
theorem oldK_of {h h' : Heap} {c P c2 P2 : Addr} (x : CodeHd h c P) (e : h.get? P = some (tabObj #[])) (y : CodeHd h c2 P2) (e2 : h.get? P2 = some (tabObj #[])) (k : ∀ b o, b ≠ P → b ≠ P2 → h.get? b = some o → h'.get? b = some o)
    (t1 : ∃ ps, h'.get? P = some (tabObj ps)) (t2 : ∃ ps, h'.get? P2 = some (tabObj ps)) : OldK h h' := by
  have g : ∀ {c P b : Addr} {o : Obj}, CodeHd h c P → h.get? P = some (tabObj #[]) → (∃ ps, h'.get? P = some (tabObj ps)) → h.get? b = some o → b = P → asItWas h h' b o ∧ ∃ o', h'.get? b = some o' := fun {c P b o} x e t eb z => by
    subst z
    obtain ⟨ps, hP⟩ := t
    rw [e] at eb
    cases eb
    exact ⟨.inr (.inl ⟨(x.tab e).isCodeTable, rfl, #[], ps, rfl, by rw [Array.empty_append]; exact hP⟩), _, hP⟩
  refine ⟨fun b o eb => ?_, fun b o eb => ?_⟩
  · by_cases h1 : b = P
    · exact (g x e t1 eb h1).1
    · by_cases h2 : b = P2
      · exact (g y e2 t2 eb h2).1
      · exact .inl (k b o h1 h2 eb)
  · by_cases h1 : b = P
    · exact (g x e t1 eb h1).2
    · by_cases h2 : b = P2
      · exact (g y e2 t2 eb h2).2
      · exact ⟨o, k b o h1 h2 eb⟩
theorem endG {c : ClaimW} {cl : Str → Option Addr} {mean : ExcName → Option Value} {args : List WData} {s₁ s' : Shared} {b : Bool} (hr : ∀ cls, c.raises args cls = false) (hp : c.post args (.bool b) args = true)
    (hk : OldK s₁.heap s'.heap) (ho : s'.os = s₁.os) (hb : AllBare s'.gens) : GoodWG c cl mean args s₁ (.ok (.ret (.bool b))) s' :=
  ⟨.inl ⟨_, _, [], rfl, hr, ReadsW.bool b, hp, fun _ => ⟨List.nodup_nil, fun _ hm => (nomatch hm)⟩⟩, hk, ho, hb⟩
theorem row : PySem.Challenge.rw_bh0017_01.Holds := by
  refine hd ?_
  k_fill
  intro w s₀ s₁ mg mb G Y fa o pm cd doc dV kV ho hd hcd hD hmg hg args vals as hpre hlay hrd hwl hlo
  have KX := km_in_of Y
  have KT := km_tabs_of Y
  refine Ground.open G ?_
  intro T B D TE TW
  clear D
  have e131 := mg_of KX T.g (n_law w)
  have hfa : fa = 131 := by
    have := hmg.symm.trans e131
    exact Value.ref.inj (Option.some.inj this)
  subst hfa
  have gd : Gd w mg mb s₁.heap := by
    refine ⟨KX, T.g, T.b, T.builtins, T.nolimit, mg_of KX T.g (n_bi w), ?_⟩
    obtain ⟨bm, ob, e1, e2, e3, e4, e5, e6⟩ := T.bmain
    rw [mg_of KX T.g (n_bi w)] at e1
    cases e1
    exact ⟨ob, e3, e4, e5, e6⟩
  have C1 := codeHd_of_K KX (h89 w)
  have C2 := codeHd_of_K KX (h130 w)
  have E1 := KT 87 (by simp)
  have E2 := KT 128 (by simp)
  clear hmg ho hd hcd hD G Y KX KT T B TE TW e131
  wrow_args hpre hlay hrd hwl hlo
  rename Heap.IsList _ _ _ => hL
  rename IntsAre _ _ => hI
  rename ¬ (_ < _) => hc
  refine law_wp gd (.start C1 E1) (.start C2 E2) (.of_eq hg) (by decide +kernel) (by decide +kernel) rfl (LsI.ofInts hL hI) (by omega) fun s' k b os t1 t2 => ?_
  exact endG (fun _ => rfl) (by first | rfl | wrow_post) (oldK_of C1 E1 C2 E2 k t1 t2) os b
end Mine
end

theorem PySem.Challenge.cw_bh0017_01_holds : PySem.Challenge.rw_bh0017_01.Holds := by
  exact Mine.row
