import PyProof.Rows.All
import Wide.All
import OpenK.AllK
import Wide.FinOn
import PySem.Challenge.RW_bd0006_01
open PySem PySem.W PyProof.Rows
set_option Elab.async false
set_option maxRecDepth 100000
set_option maxHeartbeats 8000000
namespace Mine
open_top hd_bd for PySem.Challenge.rw_bd0006_01
end Mine
theorem Mine.rst_HdBd : True ∧ True := by
  w_top off
  (try walk1) <;> trivial
namespace Mine
section
set_option maxHeartbeats 8000000
/-! the plain functions: what the text's own defs reckon, over naturals and lists -/

/-- the 95 signs of descriptors, as numbers -/
def csL : List Nat := [48, 49, 50, 51, 52, 53, 54, 55, 56, 57, 40, 41, 91, 93, 44, 39, 47, 42, 97, 98, 99, 100, 101, 102, 103, 104, 64, 58, 36, 37, 123, 125, 73, 74, 75, 76, 77, 78, 79, 80, 81, 82, 83, 84, 85, 86, 87, 88, 89, 90, 38, 43, 45, 46, 59, 60, 61, 62, 63, 33, 94, 95, 124, 126, 105, 106, 107, 108, 109, 110, 111, 112, 113, 114, 115, 116, 117, 118, 119, 120, 121, 122, 65, 66, 67, 68, 69, 70, 71, 72, 96, 35, 34, 92, 32]
def cs : Str := ⟨csL.toArray⟩
theorem cs_eq : Str.ofString "0123456789()[],'/*abcdefgh@:$%{}IJKLMNOPQRSTUVWXYZ&+-.;<=>?!^_|~ijklmnopqrstuvwxyzABCDEFGH`#\"\\ " = cs := by decide +kernel
/-- the 32 signs of the check -/
def ksL : List Nat := [113, 112, 122, 114, 121, 57, 120, 56, 103, 102, 50, 116, 118, 100, 119, 48, 115, 51, 106, 110, 53, 52, 107, 104, 99, 101, 54, 109, 117, 97, 55, 108]
def ks : Str := ⟨ksL.toArray⟩
theorem ks_eq : Str.ofString "qpzry9x8gf2tvdw0s3jn54khce6mua7l" = ks := by decide +kernel

def sg (p : Nat) : Nat := csL.getD p 0
def sgK (p : Nat) : Nat := ksL.getD p 0
/-- the text whose signs stand at the places ps -/
def mkT (ps : List Nat) : Str := ⟨(ps.map sg).toArray⟩
def mkK (ps : List Nat) : Str := ⟨(ps.map sgK).toArray⟩
def posOf (k : Nat) : Nat := csL.idxOf k

theorem posOf_sg : ∀ p < 95, posOf (sg p) = p := by decide +kernel
theorem posOf_sgK : ∀ p < 32, ksL.idxOf (sgK p) = p := by decide +kernel
/-- a sign's first place in a text -/
theorem find_sign {l : List Nat} {p : Nat} (hp : p < l.length) (hn : l.idxOf (l.getD p 0) = p) : Txt.find ⟨l.toArray⟩ ⟨#[l.getD p 0]⟩ = (p : Int) := by
  have h : l[p]? = some (l.getD p 0) := by rw [List.getD_eq_getElem?_getD, List.getElem?_eq_getElem hp]; rfl
  rcases find_whole ⟨l.toArray⟩ ⟨#[l.getD p 0]⟩ with ⟨_, hno⟩ | ⟨i, hi, hat, hfirst⟩
  · exact absurd ((StrLaws.subAt_one _ _ p).mpr (by simpa using h)) (hno p)
  · rw [hi]
    have a1 : l[i]? = some (l.getD p 0) := by simpa using (StrLaws.subAt_one _ _ i).mp hat
    have h1 : ¬ p < i := fun hlt => hfirst p hlt ((StrLaws.subAt_one _ _ p).mpr (by simpa using h))
    have h2 : ¬ i < p := by
      intro hlt
      rw [← hn] at hlt
      have hz := List.not_of_lt_findIdx hlt
      obtain ⟨hil, e⟩ := List.getElem?_eq_some_iff.mp a1
      rw [e] at hz
      simp at hz
    rw [show i = p by omega]
theorem find_cs (p : Nat) (hp : p < 95) : Txt.find cs ⟨#[sg p]⟩ = (p : Int) := find_sign hp (posOf_sg p hp)
theorem find_ks (p : Nat) (hp : p < 32) : Txt.find ks ⟨#[sgK p]⟩ = (p : Int) := find_sign hp (posOf_sgK p hp)

theorem nat_xor_add : ∀ a b : Nat, (a ^^^ b) + 2 * (a &&& b) = a + b := by
  intro a
  induction a using Nat.strongRecOn with
  | _ a ih =>
    intro b
    by_cases h0 : a = 0
    · subst h0; simp
    · have h := ih (a / 2) (by omega) (b / 2)
      have h1 : (a ^^^ b) / 2 = (a / 2) ^^^ (b / 2) := by simpa using Nat.xor_div_two (a := a) (b := b)
      have h2 : (a &&& b) / 2 = (a / 2) &&& (b / 2) := by simpa using Nat.and_div_two (a := a) (b := b)
      have h3 : (a ^^^ b) % 2 = (a + b) % 2 := by
        have := Nat.xor_mod_two_pow (a := a) (b := b) (n := 1)
        simp only [Nat.pow_one] at this
        rw [this]
        rcases Nat.mod_two_eq_zero_or_one a with e | e <;> rcases Nat.mod_two_eq_zero_or_one b with f | f <;> rw [e, f] <;> simp <;> omega
      have h4 : (a &&& b) % 2 = (a % 2) * (b % 2) := by
        have := Nat.and_mod_two_pow (a := a) (b := b) (n := 1)
        simp only [Nat.pow_one] at this
        rw [this]
        rcases Nat.mod_two_eq_zero_or_one a with e | e <;> rcases Nat.mod_two_eq_zero_or_one b with f | f <;> rw [e, f] <;> simp
      rw [← h1, ← h2] at h
      rcases Nat.mod_two_eq_zero_or_one a with e | e <;> rcases Nat.mod_two_eq_zero_or_one b with f | f <;> rw [e, f] at h4 <;> omega

theorem bitAnd_cast (a b : Nat) : Builtin.bitAnd (a : Int) (b : Int) = ((a &&& b : Nat) : Int) := by
  unfold Builtin.bitAnd
  simp
theorem bitXor_cast (a b : Nat) : Builtin.bitXor (a : Int) (b : Int) = ((a ^^^ b : Nat) : Int) := by
  rw [bitXor_and, bitAnd_cast]
  have := nat_xor_add a b
  omega

/-- one step of the check's polynomial -/
def pmN (c v : Nat) : Nat :=
  let c0 := c / 2 ^ 35
  let c1 := ((c &&& 34359738367) * 2 ^ 5) ^^^ v
  let c2 := if c0 &&& 1 = 0 then c1 else c1 ^^^ 1056006543753
  let c3 := if c0 &&& 2 = 0 then c2 else c2 ^^^ 730107360018
  let c4 := if c0 &&& 4 = 0 then c3 else c3 ^^^ 118834127661
  let c5 := if c0 &&& 8 = 0 then c4 else c4 ^^^ 236335490938
  if c0 &&& 16 = 0 then c5 else c5 ^^^ 430795026429

/-- the state behind one sign: the check's number, the class number, the count -/
def ckStep (st : Nat × Nat × Nat) (p : Nat) : Nat × Nat × Nat :=
  let c := pmN st.1 (p &&& 31)
  let k := st.2.1 * 3 + p / 32
  let n := st.2.2 + 1
  if n = 3 then (pmN c k, 0, 0) else (c, k, n)
def ckFold (ps : List Nat) : Nat × Nat × Nat := ps.foldl ckStep (1, 0, 0)
def ckFlush (st : Nat × Nat × Nat) : Nat := if st.2.2 = 0 then st.1 else pmN st.1 st.2.1
def pm8 (c : Nat) : Nat := pmN (pmN (pmN (pmN (pmN (pmN (pmN (pmN c 0) 0) 0) 0) 0) 0) 0) 0
/-- the number that the check tells -/
def ckNum (ps : List Nat) : Nat := pm8 (ckFlush (ckFold ps)) ^^^ 1
def dig (c j : Nat) : Nat := (c / 2 ^ (5 * (7 - j))) &&& 31
def digs (c : Nat) : List Nat := (List.range 8).map (dig c)
/-- the eight signs -/
def chk (ps : List Nat) : Str := mkK (digs (ckNum ps))
end
end Mine
theorem Mine.rst_Bd0 : True ∧ True := by
  w_top off
  (try walk1) <;> trivial
namespace Mine
section
set_option maxHeartbeats 8000000
/-- what a call of the text's own def tells: it comes back with a value and with made objects such as R says -/
def Con (w : World) (mg mb : Str → Option Value) (mean : ExcName → Option Value) (f : Addr) (vs : List Value) (dd : Nat) (news : List (Addr × Obj)) (R : Value → List (Addr × Obj) → Prop) : Prop :=
  ∀ (dp un : Nat) (gd : Option (List Code)) (cn : Str) (cs : Scope) (a : Addr) (ccd : Value) (cl : List (Str × Addr)) (outer : List Env) (A₀ : Around) (base h₀ : Heap) (L : Addr) (m : Str → Option Value) (s : Shared) (Q E : Value → Shared → Prop),
    Below A₀ base outer h₀ → Fr h₀ L s.heap m → (hd_bd.heap_39 w.params).In h₀ → News h₀ L s.heap news → Top hd_bd.view_39 (looseW hd_bd.view_39 []) mean mg mb h₀ → cs.kind = .function →
    dp + dd < recursionLimit → un + 8 * dd < cLine →
    (∀ (r : Value) (tl : List (Addr × Obj)) (h' : Heap) (tk' : Nat), Fr h₀ L h' m → News h₀ L h' (tl ++ news) → (∀ p ∈ tl, ∀ q ∈ news, q.1 ≠ p.1) → R r tl → Q r { s with heap := h', toks := tk' }) →
    wpAny (model Challenge.rw_bd0006_01.row.prog w) (ktrTop dp un gd cn cs L a ccd cl outer) (call (.ref f) vs) Q E s

def pmI (c v : Int) : Int :=
  let c0 := c.fdiv (2 ^ Int.toNat 35)
  let c1 := Builtin.bitXor (Builtin.bitAnd c 34359738367 * 2 ^ Int.toNat 5) v
  let c2 := if Builtin.bitAnd c0 1 = 0 then c1 else Builtin.bitXor c1 1056006543753
  let c3 := if Builtin.bitAnd c0 2 = 0 then c2 else Builtin.bitXor c2 730107360018
  let c4 := if Builtin.bitAnd c0 4 = 0 then c3 else Builtin.bitXor c3 118834127661
  let c5 := if Builtin.bitAnd c0 8 = 0 then c4 else Builtin.bitXor c4 236335490938
  if Builtin.bitAnd c0 16 = 0 then c5 else Builtin.bitXor c5 430795026429

theorem fdiv_cast (a b : Nat) : (a : Int).fdiv (b : Int) = ((a / b : Nat) : Int) := by
  rw [Int.fdiv_eq_ediv_of_nonneg _ (by omega)]; rfl
theorem fmod_cast (a b : Nat) : (a : Int).fmod (b : Int) = ((a % b : Nat) : Int) := by
  rw [Int.fmod_eq_emod_of_nonneg _ (by omega)]; rfl
theorem ite_cast {P P' : Prop} [Decidable P] [Decidable P'] {x y : Int} {x' y' : Nat} (h : P ↔ P') (hx : x = (x' : Int)) (hy : y = (y' : Int)) :
    (if P then x else y) = ((if P' then x' else y' : Nat) : Int) := by
  subst hx; subst hy
  by_cases q : P
  · rw [if_pos q, if_pos (h.mp q)]
  · rw [if_neg q, if_neg (fun z => q (h.mpr z))]
theorem pmI_cast (c v : Nat) : pmI (c : Int) (v : Int) = ((pmN c v : Nat) : Int) := by
  have h0 : (c : Int).fdiv (2 ^ Int.toNat 35) = ((c / 2 ^ 35 : Nat) : Int) := fdiv_cast c (2 ^ 35)
  have h1 : Builtin.bitXor (Builtin.bitAnd (c : Int) 34359738367 * 2 ^ Int.toNat 5) (v : Int) = ((((c &&& 34359738367) * 2 ^ 5) ^^^ v : Nat) : Int) := by
    rw [show Builtin.bitAnd (c : Int) 34359738367 = ((c &&& 34359738367 : Nat) : Int) from bitAnd_cast c 34359738367]
    exact bitXor_cast ((c &&& 34359738367) * 2 ^ 5) v
  have hb : ∀ x k : Nat, (Builtin.bitAnd (x : Int) (k : Int) = 0) ↔ (x &&& k = 0) := by
    intro x k; rw [bitAnd_cast]; omega
  have hs : ∀ (x k : Nat) (c1 : Int) (c2 g : Nat), c1 = (c2 : Int) → (if Builtin.bitAnd (x : Int) (k : Int) = 0 then c1 else Builtin.bitXor c1 (g : Int)) = ((if x &&& k = 0 then c2 else c2 ^^^ g : Nat) : Int) := by
    intro x k c1 c2 g h
    exact ite_cast (hb x k) h (by rw [h, bitXor_cast])
  unfold pmI pmN
  simp only [h0]
  exact hs _ 16 _ _ 430795026429 (hs _ 8 _ _ 236335490938 (hs _ 4 _ _ 118834127661 (hs _ 2 _ _ 730107360018 (hs _ 1 _ _ 1056006543753 h1))))
def codeStep (st : Nat × Nat × Nat) (z : Int) : Nat × Nat × Nat := ckStep st (posOf z.toNat)
theorem join_singles (l : List Nat) : Txt.join (Str.ofString "") (l.map fun c => (⟨#[c]⟩ : Str)) = ⟨l.toArray⟩ := by
  show Builtin.Str.glued (Str.ofString "") _ = _
  rw [StrLaws.glued_eq_join, show Str.ofString "" = (⟨#[]⟩ : Str) from by decide +kernel]
  induction l with
  | nil => rfl
  | cons a r ih =>
    rw [List.map_cons, join_nil_cons, ih]
    refine Str.ext' ?_
    rw [Str.cps_append]
    simp
theorem codes_fold : ∀ (ps : List Nat), (∀ p ∈ ps, p < 95) → ∀ s0, (KStt.codes (mkT ps)).foldl codeStep s0 = ps.foldl ckStep s0 := by
  intro ps
  have e : KStt.codes (mkT ps) = ps.map fun p => ((sg p : Nat) : Int) := by
    unfold KStt.codes mkT
    rw [List.map_map]; rfl
  rw [e]
  clear e
  induction ps with
  | nil => intro _ _; rfl
  | cons p r ih =>
    intro h s0
    rw [List.map_cons, List.foldl_cons, List.foldl_cons, ih (fun q hq => h q (.tail _ hq))]
    show r.foldl ckStep (ckStep s0 (posOf ((sg p : Nat) : Int).toNat)) = _
    rw [Int.toNat_natCast, posOf_sg p (h p (.head _))]
theorem pmI_cast0 (c : Nat) : pmI (c : Int) 0 = ((pmN c 0 : Nat) : Int) := pmI_cast c 0
theorem bitXor_cast1 (c : Nat) : Builtin.bitXor (c : Int) 1 = ((c ^^^ 1 : Nat) : Int) := bitXor_cast c 1
theorem dig_cast (x : Nat) (n : Nat) : (Builtin.bitAnd ((x : Int).fdiv (2 ^ n)) 31).toNat = (x / 2 ^ n) &&& 31 := by
  have h : (x : Int).fdiv (2 ^ n) = ((x / 2 ^ n : Nat) : Int) := by
    have := fdiv_cast x (2 ^ n)
    rwa [Int.natCast_pow] at this
  rw [h, show Builtin.bitAnd ((x / 2 ^ n : Nat) : Int) 31 = ((x / 2 ^ n &&& 31 : Nat) : Int) from bitAnd_cast _ 31, Int.toNat_natCast]
theorem chk_text (x : Nat) : Txt.join (Str.ofString "") ((rangeKs 0 8).map fun a => (⟨#[sgK (Builtin.bitAnd ((x : Int).fdiv (2 ^ (5 * (7 - a)).toNat)) 31).toNat]⟩ : Str)) = mkK (digs x) := by
  have e : ((rangeKs 0 8).map fun a => (⟨#[sgK (Builtin.bitAnd ((x : Int).fdiv (2 ^ (5 * (7 - a)).toNat)) 31).toNat]⟩ : Str)) = ((digs x).map sgK).map fun c => (⟨#[c]⟩ : Str) := by
    rw [show rangeKs 0 8 = [0, 1, 2, 3, 4, 5, 6, 7] from by decide +kernel]
    unfold digs dig
    rw [show List.range 8 = [0, 1, 2, 3, 4, 5, 6, 7] from rfl]
    simp only [List.map_cons, List.map_nil, dig_cast]
    rfl
  rw [e, join_singles]; rfl
theorem ret_int {x y : Int} {t : Tok} (h : x = y) : ∃ t', Value.int x t = .int y t' := ⟨t, by rw [h]⟩
theorem mask_small (c : Int) : (Builtin.bitAnd c 34359738367).natAbs < 2 ^ 64 := by
  have h := bitAnd_range c (y := 34359738367) (by decide)
  omega
local macro_rules | `(tactic| walk_at "binaryOp LShift int int") => `(tactic| (refine lshift_int_small (by decide) (by decide) (mask_small _) ?_))
theorem polymod_con {w : World} {mg mb : Str → Option Value} {mean : ExcName → Option Value} {news : List (Addr × Obj)} (c v : Int) (tc tv : Tok) :
    Con w mg mb mean 46 [.int c tc, .int v tv] 1 news (fun r _ => ∃ t, r = .int (pmI c v) t) := by
  unfold Con
  k_fill
  intro dp un gd cn cs a ccd cl outer A₀ base h₀ L m s Q E B F X N T hk hd hu hret

  refine wpAny_call ?_
  k_dflt cell_enter
  k_steps
  all_goals (refine hret _ [] _ _ (by k_asm) (by k_asm) (by exact fun _ hp => (nomatch hp)) ?_; refine ret_int ?_)
  all_goals (unfold pmI; dsimp only; (repeat (first | rw [if_pos (by assumption)] | rw [if_neg (by assumption)])))
end
end Mine
theorem Mine.rst_Bd1 : True ∧ True := by
  w_top off
  (try walk1) <;> trivial
namespace Mine
section
/-! a def's frame over a base that holds all that stood at the call: the callers' made objects need no row of the ledger while the def runs -/

/-- the heap of the objects below an address -/
def cut (h : Heap) (L : Nat) : Heap := { h with objs := h.objs.extract 0 L }
theorem cut_size (h : Heap) {L : Nat} (hl : L ≤ h.objs.size) : (cut h L).objs.size = L := by
  show (h.objs.extract 0 L).size = L
  rw [Array.size_extract]; omega
theorem cut_get {h : Heap} {L b : Nat} (hb : b < L) : (cut h L).get? b = h.get? b := by
  have e : (cut h L).objs[b]? = h.objs[b]? := by
    show (h.objs.extract 0 L)[b]? = _
    rw [Array.getElem?_extract]
    by_cases hs : b < h.objs.size
    · rw [if_pos (by omega)]; simp
    · rw [if_neg (by omega)]
      exact (Array.getElem?_eq_none (by omega)).symm
  unfold Heap.get?
  rw [e]
theorem cut_none {h : Heap} {L b : Nat} (hb : L ≤ b) : (cut h L).get? b = none := by
  have e : (cut h L).objs[b]? = none := by
    show (h.objs.extract 0 L)[b]? = none
    refine Array.getElem?_eq_none ?_
    rw [Array.size_extract]; omega
  unfold Heap.get?
  rw [e]

section
variable {g h₁ h₀ base : Heap} {L' L : Addr} {m m1 : Str → Option Value} {cells news : List (Addr × Obj)} {A : Around} {outer : List Env} {K : Frag} {p : Program} {loose : List Str} {mean : ExcName → Option Value} {mg mb : Str → Option Value}
theorem rebase_keeps (F : Fr g L' h₁ m1) : ∀ b o, g.get? b = some o → (cut h₁ L').get? b = some o := fun b o e => by
  have hb : b < L' := Nat.lt_of_lt_of_le (Heap.lt_size e) F.above
  rw [cut_get hb]; exact F.keep b o e
theorem rebase_size (F : Fr g L' h₁ m1) : g.objs.size ≤ (cut h₁ L').objs.size := by
  rw [cut_size _ (Nat.le_of_lt F.ns.lt)]; exact F.above
theorem rebase_fr (F : Fr g L' h₁ m1) : Fr (cut h₁ L') L' h₁ m1 :=
  ⟨F.ns, (fun b o e => by
    by_cases hb : b < L'
    · rwa [cut_get hb] at e
    · rw [cut_none (Nat.le_of_not_lt hb)] at e; cases e), Nat.le_of_eq (cut_size _ (Nat.le_of_lt F.ns.lt))⟩
theorem rebase_news (N : News g L' h₁ (cells ++ news)) (hc : ∀ p ∈ cells, @LE.le Nat _ L' p.1) : News (cut h₁ L') L' h₁ cells := fun p hp =>
  ⟨(N p (List.mem_append.mpr (.inl hp))).1, (N p (List.mem_append.mpr (.inl hp))).2.1, cut_none (hc p hp)⟩
theorem rebase_old (N : News g L' h₁ (cells ++ news)) (hl : ∀ p ∈ news, p.1 < L') : ∀ p ∈ news, (cut h₁ L').get? p.1 = some p.2 := fun p hp => by
  rw [cut_get (hl p hp)]; exact (N p (List.mem_append.mpr (.inr hp))).1
theorem rebase_below (F : Fr g L' h₁ m1) (B : Below A base outer g) : Below A base outer (cut h₁ L') :=
  ⟨B.stack, fun b o e => rebase_keeps F b o (B.stays b o e), B.frames.of_keeps fun b o e _ => ⟨o, rebase_keeps F b o e, rfl⟩⟩
theorem rebase_outer (F : Fr g L' h₁ m1) (FG : Fr h₀ L g m) : Fr h₀ L (cut h₁ L') m :=
  ⟨FG.ns.keeps (rebase_keeps F), fun b o e => rebase_keeps F b o (FG.keep b o e), FG.above⟩
theorem rebase_leave {g2 : Heap} {R : Result → Shared → Prop} {v : Value} {s' : Shared} (st : ∀ b o, g.get? b = some o → g2.get? b = some o) (sz : g.objs.size ≤ g2.objs.size) (h : LeaveK h₀ L m g2 R v s') : LeaveK h₀ L m g R v s' := by
  obtain ⟨L', m', news', F', N', k⟩ := h
  refine ⟨L', m', news', ⟨F'.ns, fun b o e => F'.keep b o (st b o e), Nat.le_trans sz F'.above⟩, fun p hp => ⟨(N' p hp).1, (N' p hp).2.1, ?_⟩, k⟩
  cases q : g.get? p.1 with
  | none => rfl
  | some o => have := (N' p hp).2.2; rw [st _ _ q] at this; cases this
theorem rebase_goal {M : Model} {g2 : Heap} {R : Result → Shared → Prop} {t : Sem Flow} {fv : Flow → Value} {E : Value → Shared → Prop} {s : Shared} (st : ∀ b o, g.get? b = some o → g2.get? b = some o) (sz : g.objs.size ≤ g2.objs.size)
    (h : wpAny M A t (fun fl s' => LeaveK h₀ L m g2 R (fv fl) s') E s) : wpAny M A t (fun fl s' => LeaveK h₀ L m g R (fv fl) s') E s :=
  wpAny_mono h (fun _ _ x => rebase_leave st sz x) fun _ _ x => x
/-- at the def's end: what the callers had made stands as it stood -/
theorem rebase_end {g2 h9 h : Heap} {m9 : Str → Option Value} {tl : List (Addr × Obj)} (F9 : Fr g2 L' h9 m9) (N9 : News g2 L' h9 tl) (kN : News h₀ L h9 tl) (N : News h₀ L h news) (hn : ∀ p ∈ news, g2.get? p.1 = some p.2) :
    News h₀ L h9 (tl ++ news) ∧ ∀ p ∈ tl, ∀ q ∈ news, q.1 ≠ p.1 := by
  refine ⟨fun p hp => ?_, fun p hp q hq e => ?_⟩
  · rcases List.mem_append.mp hp with hp | hp
    · exact kN p hp
    · exact ⟨F9.keep _ _ (hn p hp), (N p hp).2.1, (N p hp).2.2⟩
  · have h1 := (N9 p hp).2.2
    rw [← e, hn q hq] at h1; cases h1
end
end
end Mine
theorem Mine.rst_BdR : True ∧ True := by
  w_top off
  (try walk1) <;> trivial
namespace Mine
section
set_option maxHeartbeats 8000000
theorem polymod_use {w : World} {mg mb : Str → Option Value} {mean : ExcName → Option Value} {news : List (Addr × Obj)} {c v : Int} {tc tv : Tok}
    {dp un : Nat} {gd : Option (List Code)} {cn : Str} {cs : Scope} {a : Addr} {ccd : Value} {cl : List (Str × Addr)} {outer : List Env} {A₀ : Around} {base h₀ : Heap} {L : Addr} {m : Str → Option Value} {s : Shared} {Q E : Value → Shared → Prop}
    (B : Below A₀ base outer h₀) (F : Fr h₀ L s.heap m) (X : (hd_bd.heap_39 w.params).In h₀) (N : News h₀ L s.heap news) (T : Top hd_bd.view_39 (looseW hd_bd.view_39 []) mean mg mb h₀) (hk : cs.kind = .function)
    (hd : dp + 1 < recursionLimit) (hu : un + 8 < cLine)
    (h : ∀ t h' tk', Fr h₀ L h' m → News h₀ L h' news → Q (.int (pmI c v) t) { s with heap := h', toks := tk' }) :
    wpAny (model Challenge.rw_bd0006_01.row.prog w) (ktrTop dp un gd cn cs L a ccd cl outer) (call (.ref 46) [.int c tc, .int v tv]) Q E s := by
  refine polymod_con c v tc tv dp un gd cn cs a ccd cl outer A₀ base h₀ L m s Q E B F X N T hk hd (by omega) ?_
  rintro r tl h' tk' F' N' _ ⟨t, rfl⟩
  exact h t h' tk' F' (fun p hp => N' p (List.mem_append.mpr (.inr hp)))

local macro_rules | `(tactic| walk_at "call ref") => `(tactic| (k_here; (with_reducible show wpAny _ _ (call (Value.ref 46) [Value.int _ _, Value.int _ _]) _ _ _); (refine' polymod_use ?k1 ?k2 ?k3 ?k4 ?k5 ?kK ?kd ?ku ?_; (case k1 => k_asm); (case k2 => k_asm); (case k3 => k_asm); (case k4 => k_asm); (case k5 => k_asm); (case kK => first | exact rfl | assumption); (case kd => ktr_room); (case ku => ktr_units); k_whole; intro t9 h9 tk9 F9 N9; (try dsimp only); (try k_fold))))

theorem all_ne_of {news : List (Addr × Obj)} {b d : Nat} (h : ∀ p ∈ news, @LT.lt Nat _ p.1 b) (hd : b ≤ d) : ∀ p ∈ news, p.1 ≠ d := fun p hp => Nat.ne_of_lt (Nat.lt_of_lt_of_le (h p hp) hd)
local macro_rules | `(tactic| k_all) => `(tactic| first | assumption | exact all_ne_of (by assumption) (by omega) | (refine List.forall_mem_append.mpr ⟨?a, ?b⟩; (case a => k_all); (case b => k_all)))
local macro_rules | `(tactic| walk_at "ite") => `(tactic| (refine ite_neg (by rw [beq_iff_eq]; omega) ?_))

theorem find_step {prog : Program} {w : World} {A : Around} {E : Value → Shared → Prop} {s : Shared} {x : Str} {t u : Tok} {Q : Value → Shared → Prop} {n p : Nat} (hx : x = cs) (hn : n = sg p) (hp : p < 95) (h : ∀ t' k, Q (.int (p : Int) t') { s with toks := k }) :
    wpAny (model prog w) A (call (.builtin "str.find") [.str x t, .str ⟨#[n]⟩ u]) Q E s := by
  subst hx; subst hn
  exact SC.find (by rw [find_cs p hp]; exact h _ _)
local macro_rules | `(tactic| walk_at "call builtin:str.find") => `(tactic| (refine find_step cs_eq (by assumption) (by assumption) ?_; intro _ _))

theorem item_tab {prog : Program} {w : World} {A : Around} {E : Value → Shared → Prop} {s : Shared} {value slice : PySem.Expr} {x : Str} {t u : Tok} {i : Int} {l : List Nat} {Q : Value → Shared → Prop} (hx : x = ⟨l.toArray⟩) (h0 : 0 ≤ i) (h1 : i < (l.length : Int)) (hn : l.length ≤ 16777216)
    (h : Q (.str ⟨#[l.getD i.toNat 0]⟩ s.toks) { s with toks := s.toks + 1 })
    (hs : subscripted slice false (.str x t) (.int i u) = operate [.str x t, .int i u] (getItem (.str x t) (.int i u)) := by with_unfolding_all rfl)
    (ht : ∀ r, letTemporaryGo value (.str x t) r = pure () := by intro _; with_unfolding_all rfl) :
    wpAny (model prog w) A (subscriptTail value slice (.str x t) (.int i u)) Q E s := by
  have hl : x.length = l.length := by rw [hx]; rfl
  refine KXi.item (n := l.length) hl (by omega) h1 hn (fun _ => ?_) hs ht
  rw [item_meets ⟨h0, by rw [hl]; exact h1⟩, hx]
  simpa using h
theorem and31_lt (y : Int) : Builtin.bitAnd y 31 < 32 := by
  have := bitAnd_range y (y := 31) (by decide)
  omega
/-- the sign at an unknown place of the check's alphabet -/
theorem item_ks {prog : Program} {w : World} {A : Around} {E : Value → Shared → Prop} {s : Shared} {value slice : PySem.Expr} {t u : Tok} {y : Int} {Q : Value → Shared → Prop}
    (h : Q (.str ⟨#[sgK (Builtin.bitAnd y 31).toNat]⟩ s.toks) { s with toks := s.toks + 1 })
    (hs : subscripted slice false (.str (Str.ofString "qpzry9x8gf2tvdw0s3jn54khce6mua7l") t) (.int (Builtin.bitAnd y 31) u) = operate [.str (Str.ofString "qpzry9x8gf2tvdw0s3jn54khce6mua7l") t, .int (Builtin.bitAnd y 31) u] (getItem (.str (Str.ofString "qpzry9x8gf2tvdw0s3jn54khce6mua7l") t) (.int (Builtin.bitAnd y 31) u)) := by with_unfolding_all rfl)
    (ht : ∀ r, letTemporaryGo value (.str (Str.ofString "qpzry9x8gf2tvdw0s3jn54khce6mua7l") t) r = pure () := by intro _; with_unfolding_all rfl) :
    wpAny (model prog w) A (subscriptTail value slice (.str (Str.ofString "qpzry9x8gf2tvdw0s3jn54khce6mua7l") t) (.int (Builtin.bitAnd y 31) u)) Q E s :=
  item_tab (l := ksL) ks_eq (bitAnd_range y (by decide)).1 (and31_lt y) (by decide) h hs ht
local macro_rules | `(tactic| walk_at "subscriptTail") => `(tactic| ((with_reducible show wpAny _ _ (subscriptTail _ _ (Value.str (Str.ofString "qpzry9x8gf2tvdw0s3jn54khce6mua7l") _) (Value.int (Builtin.bitAnd _ 31) _)) _ _ _); refine item_ks ?_))
local macro_rules | `(tactic| walk_at "CompSrc") => `(tactic| (k_here; k_dflt (refine LCg.CompSrc.range (by rfl) (by k_asm) (by k_asm) (by assumption) (by decide) (by rfl) (by exact Nat.le_of_ble_eq_true rfl) ?_; intro g'; (refine' kct_range _ (fun k' t' I' oI' C' oC' D' m' ys' h' tk' E' hlo' hhi' hC' hx' F' N' off' ne' => ?_) ?_); (all_goals (try (simp only [LCg.Off3, and_true] at off'))); (all_goals (try ((show KPfMark → _); intro hMark'))); kcf_last)))

/-- the state of the check's loop, with what the ledger and the frame bear of it -/
structure CkS where
  o : Obj
  c : Nat
  ct : Tok
  k : Nat
  kt : Tok
  n : Nat
  nt : Tok
def CkP (pre : List Int) (st : CkS) : Prop := (st.c, st.k, st.n) = pre.foldl codeStep (1, 0, 0) ∧ ((st.n = 0 ∧ st.k = 0) ∨ (st.n = 1 ∧ st.k ≤ 2) ∨ (st.n = 2 ∧ st.k ≤ 8))
theorem ck_snoc {pre : List Int} {st s0 : Nat × Nat × Nat} {z p : Nat} (h : st = pre.foldl codeStep s0) (hz : z = sg p) (hp : p < 95) : (pre ++ [(z : Int)]).foldl codeStep s0 = ckStep st p := by
  subst hz; subst h
  rw [List.foldl_append]
  show ckStep _ (posOf ((sg p : Nat) : Int).toNat) = _
  rw [Int.toNat_natCast, posOf_sg p hp]
theorem code_in {ps : List Nat} {pre post : List Int} {z : Nat} (hps : ∀ p ∈ ps, p < 95) (h : KStt.codes (mkT ps) = pre ++ (z : Int) :: post) : ∃ p, z = sg p ∧ p < 95 := by
  have hm : (z : Int) ∈ KStt.codes (mkT ps) := by rw [h]; exact List.mem_append.mpr (.inr (.head _))
  unfold KStt.codes mkT at hm
  obtain ⟨c, hc, e⟩ := List.mem_map.mp hm
  obtain ⟨p, hp, e2⟩ := List.mem_map.mp hc
  exact ⟨p, by omega, hps p hp⟩
theorem cell_int {o : Obj} {x y : Int} {t : Tok} (h : o.data = .cell (some (.int x t))) (e : x = y) : o.data = .cell (some (.int y t)) := by rw [h, e]

theorem ret_str {x y : Str} {t : Tok} (h : x = y) : ∃ t', Value.str x t = .str y t' := ⟨t, by rw [h]⟩
theorem checksum_con {w : World} {mg mb : Str → Option Value} {mean : ExcName → Option Value} {news : List (Addr × Obj)} (ps : List Nat) (hps : ∀ p ∈ ps, p < 95) (td : Tok) :
    Con w mg mb mean 51 [.str (mkT ps) td] 2 news (fun r _ => ∃ t, r = .str (chk ps) t) := by
  unfold Con
  k_fill
  intro dp un gd cn cs a ccd cl outer A₀ base h₀ L m s Q E B F X N T hk hd hu hret
  refine wpAny_call ?_
  k_dflt (refine' code_defC ?k1 ?k2 ?k3 ?k4 ?k5 ?kA ?kF ?kK ?k6 ?k7 ?k8 ?k9 ?kB ?kD ?_ ?c2 ?c3 ?c4; (case kA => exact rfl); (case kF => exact rfl); (case kK => assumption); (case k1 => k_asm); (case k2 => k_asm); (case k3 => k_asm); (case k4 => k_asm); (case k5 => k_asm); (case k6 => k_is); (case k7 => k_is); (case k8 => ktr_room); (case k9 => exact BindsTo.of_eq rfl); (case kB => exact rfl); (case kD => decide +kernel); (case c2 => exact rfl); (case c3 => exact rfl); (case c4 => exact rfl); k_whole; intro g' L' h' tk' cells' FG' F' N' Y' B' X' T' l1; k_cells Y')
  refine rebase_goal (rebase_keeps F') (rebase_size F') ?_
  have hold := rebase_old N' l1
  replace N' := rebase_news N' (by intro p hp; simp only [List.mem_cons, List.not_mem_nil, or_false] at hp; rcases hp with rfl | rfl <;> (dsimp only; omega))
  replace B' := rebase_below F' B'
  replace X' := X'.keeps (rebase_keeps F')
  replace T' := T'.keeps (rebase_keeps F')
  replace FG' := rebase_outer F' FG'
  replace F' := rebase_fr F'
  generalize cut h' L' = g2 at hold N' B' X' T' FG' F' ⊢
  clear l1 g'
  dsimp only
  try k_fold
  k_steps
  (rename Fr _ _ _ _ => lF'); (with_unfolding_all refine' For_invVF lF' ?k1 ?k2 ?_; (case k1 => exact rfl); (case k2 => exact rfl); k_whole)
  walk1
  rename News _ _ _ _ => lN
  rename_i oc dc _ o0 d0 _ _
  refine KStt.kst_text (σ := CkS) (fun st => (L' + 1 + 1, st.o) :: (L' + 1, oc) :: []) (fun st => [(Str.ofString "cls", .int (st.k : Int) st.kt), (Str.ofString "clscount", .int (st.n : Int) st.nt)])
    (fun st => st.o.data = .cell (some (.int (st.c : Int) st.ct))) [Str.ofString "pos"] CkP ⟨o0, 1, _, 0, _, 0, _⟩ rfl lF' lN d0 (by kst_all) (by exact ⟨rfl, .inl ⟨rfl, rfl⟩⟩) ?_ ?_
  · clear lF' lN d0
    rintro ⟨o, c, ct, k, kt, n, nt⟩ pre post z tz u h tk own heq hoff hfacts hinv F9 N9
    dsimp only at hfacts F9 N9
    simp only [List.cons_append, List.nil_append] at N9
    have hoff1 : ∀ p ∈ own, p.1 ≠ L' + 1 + 1 := hoff.ne (.head _)
    have hoff2 : ∀ p ∈ own, p.1 ≠ L' + 1 := hoff.ne (.tail _ (.head _))
    obtain ⟨hfold, hkn⟩ := hinv
    dsimp only at hfold hkn
    have hk8 : k ≤ 8 := by omega
    have hn2 : n ≤ 2 := by omega
    obtain ⟨p, hzp, hp⟩ := code_in hps heq
    try k_fold
    k_steps
    all_goals (
      have h31 : Builtin.bitAnd (p : Int) 31 = ((p &&& 31 : Nat) : Int) := bitAnd_cast p 31
      have e5 : (p : Int).fdiv (2 ^ Int.toNat 5) = ((p / 32 : Nat) : Int) := fdiv_cast p 32
      have hc1 : pmI (c : Int) (Builtin.bitAnd (p : Int) 31) = ((pmN c (p &&& 31) : Nat) : Int) := by rw [h31, pmI_cast]
      have hk1 : (k : Int) * 3 + (p : Int).fdiv (2 ^ Int.toNat 5) = ((k * 3 + p / 32 : Nat) : Int) := by rw [e5]; omega
      have hc2 : pmI (pmI (c : Int) (Builtin.bitAnd (p : Int) 31)) ((k : Int) * 3 + (p : Int).fdiv (2 ^ Int.toNat 5)) = ((pmN (pmN c (p &&& 31)) (k * 3 + p / 32) : Nat) : Int) := by rw [hc1, hk1, pmI_cast]
      have hs := ck_snoc hfold hzp hp
      (rename Fr _ _ _ _ => fE)
      (rename News _ _ _ _ => nE)
      (rename Obj => oE)
      (rename oE.data = _ => dE))
    · have hn : n + 1 = 3 := by simp only [beq_iff_eq] at *; omega
      refine kst_end (c := ⟨oE, pmN (pmN c (p &&& 31)) (k * 3 + p / 32), _, 0, _, 0, _⟩) fE nE (by kst_inAny) (by kst_anyIn) (by rfl) (cell_int dE hc2) (by kst_all) (by intro zz h1 h2 h3; simp only [List.forall_mem_cons, List.not_mem_nil, false_implies, implies_true, and_true, ne_eq] at h2; simp only [List.contains_cons, List.contains_nil, Bool.or_false, Bool.or_eq_false_iff, beq_eq_false_iff_ne, ne_eq] at h3; simp [kstB, h1, h2, h3]) ⟨?_, .inl ⟨rfl, rfl⟩⟩
      rw [hs]
      unfold ckStep
      rw [if_pos hn]
    · have hn : ¬ (n + 1 = 3) := by simp only [beq_iff_eq] at *; omega
      rw [hk1] at fE
      refine kst_end (c := ⟨oE, pmN c (p &&& 31), _, k * 3 + p / 32, _, n + 1, _⟩) fE nE (by kst_inAny) (by kst_anyIn) (by rfl) (cell_int dE hc1) (by kst_all) (by intro zz h1 h2 h3; simp only [List.forall_mem_cons, List.not_mem_nil, false_implies, implies_true, and_true, ne_eq] at h2; simp only [List.contains_cons, List.contains_nil, Bool.or_false, Bool.or_eq_false_iff, beq_eq_false_iff_ne, ne_eq] at h3; simp [kstB, h1, h2, h3]) ⟨?_, ?_⟩
      · rw [hs]
        unfold ckStep
        rw [if_neg hn]
      · dsimp only; omega
  · clear lF' lN d0
    rintro ⟨o, c, ct, k, kt, n, nt⟩ u h tk hfacts hinv F9 N9
    dsimp only at hfacts F9 N9
    obtain ⟨hfold, hkn⟩ := hinv
    dsimp only at hfold hkn
    have hk8 : k ≤ 8 := by omega
    have hn2 : n ≤ 2 := by omega
    try k_fold
    rw [codes_fold ps hps] at hfold
    have hnum : pm8 (ckFlush (c, k, n)) ^^^ 1 = ckNum ps := by rw [hfold]; rfl
    k_steps
    all_goals (
      (rename Fr h₀ L _ m => kF)
      (rename News h₀ L _ _ => kN)
      (rename Fr g2 L' _ _ => F8)
      (rename News g2 L' _ _ => N8)
      obtain ⟨hN, hne⟩ := rebase_end F8 N8 kN N hold
      refine hret _ _ _ _ kF hN hne ?_
      refine ret_str ?_
      simp only [pmI_cast, pmI_cast0, bitXor_cast1])
    · have hn : ckFlush (c, k, n) = pmN c k := by
        unfold ckFlush; rw [if_neg (by dsimp only; omega)]
      rw [hn] at hnum
      unfold chk
      rw [← hnum]
      exact chk_text _
    · have hn : ckFlush (c, k, n) = c := by
        unfold ckFlush; rw [if_pos (by dsimp only; omega)]
      rw [hn] at hnum
      unfold chk
      rw [← hnum]
      exact chk_text _
end
end Mine
theorem Mine.rst_Bd2 : True ∧ True := by
  w_top off
  (try walk1) <;> trivial
namespace Mine
section
set_option maxHeartbeats 8000000
theorem checksum_use {w : World} {mg mb : Str → Option Value} {mean : ExcName → Option Value} {news : List (Addr × Obj)} {ps : List Nat} {td : Tok}
    {dp un : Nat} {gd : Option (List Code)} {cn : Str} {cs : Scope} {a : Addr} {ccd : Value} {cl : List (Str × Addr)} {outer : List Env} {A₀ : Around} {base h₀ : Heap} {L : Addr} {m : Str → Option Value} {s : Shared} {Q E : Value → Shared → Prop}
    (B : Below A₀ base outer h₀) (F : Fr h₀ L s.heap m) (X : (hd_bd.heap_39 w.params).In h₀) (N : News h₀ L s.heap news) (T : Top hd_bd.view_39 (looseW hd_bd.view_39 []) mean mg mb h₀) (hk : cs.kind = .function)
    (hd : dp + 2 < recursionLimit) (hu : un + 16 < cLine) (hps : ∀ p ∈ ps, p < 95)
    (h : ∀ t h' tk', Fr h₀ L h' m → News h₀ L h' news → Q (.str (chk ps) t) { s with heap := h', toks := tk' }) :
    wpAny (model Challenge.rw_bd0006_01.row.prog w) (ktrTop dp un gd cn cs L a ccd cl outer) (call (.ref 51) [.str (mkT ps) td]) Q E s := by
  refine checksum_con ps hps td dp un gd cn cs a ccd cl outer A₀ base h₀ L m s Q E B F X N T hk hd (by omega) ?_
  rintro r tl h' tk' F' N' _ ⟨t, rfl⟩
  exact h t h' tk' F' (fun p hp => N' p (List.mem_append.mpr (.inr hp)))

theorem mkT_length (ps : List Nat) : (mkT ps).length = ps.length := by simp [mkT, PySem.Str.length]
theorem mkK_length (ps : List Nat) : (mkK ps).length = ps.length := by simp [mkK, PySem.Str.length]
theorem chk_length (ps : List Nat) : (chk ps).length = 8 := by rw [chk, mkK_length]; rfl
theorem sg_hash : ∀ p < 95, p ≠ 91 → sg p ≠ 35 := by decide +kernel
theorem in_hash {prog : Program} {w : World} {A : Around} {E : Value → Shared → Prop} {s : Shared} {Q : Value → Shared → Prop} {t u : Tok} {ps : List Nat} (hp : ∀ p ∈ ps, p < 95 ∧ p ≠ 91) (h : Q (.bool false) s) :
    wpAny (model prog w) A (compareOp .In (.str (Str.ofString "#") u) (.str (mkT ps) t)) Q E s := by
  refine in_str ?_
  rw [show Str.ofString "#" = (⟨#[35]⟩ : Str) from by decide +kernel, StrLaws.found_one]
  have e : decide (35 ∈ (mkT ps).cps.toList) = false := by
    refine decide_eq_false fun hm => ?_
    unfold mkT at hm
    obtain ⟨p, hp', e⟩ := List.mem_map.mp hm
    exact sg_hash p (hp p hp').1 (hp p hp').2 e
  rw [e]; exact h
local macro_rules | `(tactic| walk_at "compareOp In") => `(tactic| (refine in_hash (by assumption) ?_))
local macro_rules | `(tactic| walk_at "compareOp In str str") => `(tactic| (refine in_hash (by assumption) ?_))
local macro_rules | `(tactic| walk_at "call ref") => `(tactic| (k_here; (with_reducible show wpAny _ _ (call (Value.ref 51) [Value.str (mkT _) _]) _ _ _); (refine' checksum_use ?k1 ?k2 ?k3 ?k4 ?k5 ?kK ?kd ?ku ?kp ?_; (case k1 => k_asm); (case k2 => k_asm); (case k3 => k_asm); (case k4 => k_asm); (case k5 => k_asm); (case kK => first | exact rfl | assumption); (case kd => ktr_room); (case ku => ktr_units); (case kp => assumption); k_whole; intro t9 h9 tk9 F9 N9; (try dsimp only); (try k_fold))))

theorem add_checksum_con {w : World} {mg mb : Str → Option Value} {mean : ExcName → Option Value} {news : List (Addr × Obj)} (ps : List Nat) (hps : ∀ p ∈ ps, p < 95) (hph : ∀ p ∈ ps, p < 95 ∧ p ≠ 91) (hl : ps.length ≤ 14) (td : Tok) :
    Con w mg mb mean 58 [.str (mkT ps) td] 4 news (fun r _ => ∃ t, r = .str (mkT ps ++ Str.ofString "#" ++ chk ps) t) := by
  unfold Con
  k_fill
  intro dp un gd cn cs a ccd cl outer A₀ base h₀ L m s Q E B F X N T hk hd hu hret
  have hl1 : (mkT ps).length ≤ 14 := by rw [mkT_length]; exact hl
  have hl2 : (chk ps).length = 8 := chk_length ps
  refine wpAny_call ?_
  k_dflt cell_enter
  k_steps
  refine hret _ [] _ _ (by k_asm) (by k_asm) (by exact fun _ hp => (nomatch hp)) ?_
  exact ret_str rfl
end
end Mine
theorem Mine.rst_Bd3 : True ∧ True := by
  w_top off
  (try walk1) <;> trivial
namespace Mine
section
/-! a loop over enumerate(list) by what holds between its turns -/
theorem kst_map {m : Str → Option Value} {ps : List (Str × Value)} (h : ∀ p ∈ ps, m p.1 = some p.2) : kstB m ps = m := by
  funext z
  exact kstB_eq h fun _ => rfl
theorem fr_kst {h₀ h : Heap} {L : Addr} {m : Str → Option Value} (ps : List (Str × Value)) (hp : ∀ p ∈ ps, m p.1 = some p.2) (F : Fr h₀ L h m) : Fr h₀ L h (kstB m ps) := by
  rw [kst_map hp]; exact F
section
variable {prog : Program} {w : World} {A : Around} {E : Value → Shared → Prop} {s : Shared} {env : Env} {h₀ : Heap} {target : PySem.Expr} {body : List Stmt} {Q : Flow → Shared → Prop} {ws : List (Addr × String)} {keep : List (Addr × Obj)}
theorem unr_mono {L : Addr} {s₁ : Shared} {its : List (Addr × Obj)} {r r' : (Str → Option Value) → List (Addr × Obj) → Prop} {f : Flow} {s₂ : Shared} (hr : ∀ m n, r m n → r' m n) (h : UnrPostW h₀ L s₁ its r Q f s₂) : UnrPostW h₀ L s₁ its r' Q f s₂ := by
  have up : UnrEndW h₀ L s₁ its r s₂ → UnrEndW h₀ L s₁ its r' s₂ := by
    rintro ⟨h', tk, m', n', e, F, N, o, x⟩
    exact ⟨h', tk, m', n', e, F, N, o, hr _ _ x⟩
  cases f with
  | ret v => exact h
  | brk => exact h
  | next => exact up h
  | cont => exact up h
theorem items_ind {σ : Type} (Led : σ → List (Addr × Obj)) (ps : List (Str × Value)) (Inv : Nat → List Value → σ → Prop)
    (turn : ∀ (k : Nat) (x : Value) (r : List Value) (c : σ) (u : Str → Option Value) T t h tk, Inv k (x :: r) c → IsTup h T #[.int (k : Int) t, x] → Fr h₀ env.locals h (kstB u ps) → AllObj ws (fun its => News h₀ env.locals h (its ++ Led c) →
      wpAny (model prog w) A (assign target env (.ref T)) (fun _ s₂ => wpAny (model prog w) A (execs body env) (UnrPostW h₀ env.locals { s with heap := h, toks := tk } its (fun m' n' => SubL keep n' ∧ ∃ c', n' = Led c' ∧ Inv (k + 1) r c' ∧ ∀ p ∈ ps, m' p.1 = some p.2) Q) E s₂) E { s with heap := h, toks := tk }))
    (done : ∀ (k : Nat) (c : σ) (u : Str → Option Value) h tk, Inv k [] c → Fr h₀ env.locals h (kstB u ps) → News h₀ env.locals h (Led c) → Q .next { s with heap := h, toks := tk }) :
    ∀ (vs : List Value) (k : Nat) (c : σ) (u : Str → Option Value), Inv k vs c → ItemsRest prog w A E h₀ env target body Q s ws keep (enumItems k vs) (kstB u ps) (Led c) := by
  intro vs
  induction vs with
  | nil => intro k c u hi h tk F N; exact done k c u h tk hi F N
  | cons x r ih =>
    intro k c u hi
    refine ItemsRest.pair (f := fun t => .int (k : Int) t) (x := x) (r := enumItems (k + 1) r) fun T t h tk hT F => ?_
    have hturn := turn k x r c u T t h tk hi hT F
    revert hturn
    have go : ∀ (ws' : List (Addr × String)) (p p' : List (Addr × Obj) → Prop), (∀ its, p its → p' its) → AllObj ws' p → AllObj ws' p' := by
      intro ws'
      induction ws' with
      | nil => intro p p' hp hx; exact hp _ hx
      | cons a b ihb => intro p p' hp hx o ho; exact ihb _ _ (fun its hq => hp _ hq) (hx o ho)
    refine go ws _ _ fun its hq N => ?_
    refine wpAny_mono (hq N) (fun _ s₂ h2 => wpAny_mono h2 (fun f s₃ h3 => ?_) fun _ _ x => x) fun _ _ x => x
    refine unr_mono (fun m' n' hx => ?_) h3
    obtain ⟨hk, c', rfl, hi', hp⟩ := hx
    refine ⟨hk, ?_⟩
    rw [← kst_map hp]
    exact ih (k + 1) c' m' hi'
theorem items_of {σ : Type} {m₀ : Str → Option Value} {news : List (Addr × Obj)} (Led : σ → List (Addr × Obj)) (ps : List (Str × Value)) (Inv : Nat → List Value → σ → Prop) {vs : List Value} {k : Nat} {c : σ} (hm : ∀ p ∈ ps, m₀ p.1 = some p.2) (hi : Inv k vs c)
    (turn : ∀ (k : Nat) (x : Value) (r : List Value) (c : σ) (u : Str → Option Value) T t h tk, Inv k (x :: r) c → IsTup h T #[.int (k : Int) t, x] → Fr h₀ env.locals h (kstB u ps) → AllObj ws (fun its => News h₀ env.locals h (its ++ Led c) →
      wpAny (model prog w) A (assign target env (.ref T)) (fun _ s₂ => wpAny (model prog w) A (execs body env) (UnrPostW h₀ env.locals { s with heap := h, toks := tk } its (fun m' n' => SubL keep n' ∧ ∃ c', n' = Led c' ∧ Inv (k + 1) r c' ∧ ∀ p ∈ ps, m' p.1 = some p.2) Q) E s₂) E { s with heap := h, toks := tk }))
    (done : ∀ (k : Nat) (c : σ) (u : Str → Option Value) h tk, Inv k [] c → Fr h₀ env.locals h (kstB u ps) → News h₀ env.locals h (Led c) → Q .next { s with heap := h, toks := tk })
    (hn : Led c = news := by rfl) : ItemsRest prog w A E h₀ env target body Q s ws keep (enumItems k vs) m₀ news := by
  subst hn
  rw [← kst_map hm]
  exact items_ind Led ps Inv turn done vs k c m₀ hi
end
end
end Mine
theorem Mine.rst_BdL : True ∧ True := by
  w_top off
  (try walk1) <;> trivial
namespace Mine
section
set_option maxHeartbeats 8000000
/-- the powers of two's root in the field of 32, and their places -/
def powL : List Int := [1, 2, 4, 8, 16, 9, 18, 13, 26, 29, 19, 15, 30, 21, 3, 6, 12, 24, 25, 27, 31, 23, 7, 14, 28, 17, 11, 22, 5, 10, 20]
def logL : List Int := [0, 0, 1, 14, 2, 28, 15, 22, 3, 5, 29, 26, 16, 7, 23, 11, 4, 25, 6, 10, 30, 13, 27, 21, 17, 18, 8, 19, 24, 9, 12, 20]
theorem pow_step : ∀ n < 31, 1 ≤ n → n < 31 → (if 2 * powL.getD (n - 1) 0 > 31 then Builtin.bitXor (2 * powL.getD (n - 1) 0) 41 else 2 * powL.getD (n - 1) 0) = powL.getD n 0 := by decide +kernel
def logsAt (k : Nat) : List Int := (List.range k).foldl (fun l i => l.set (powL.getD i 0).toNat (i : Int)) (List.replicate 32 0)
theorem logsAt_succ (k : Nat) : logsAt (k + 1) = (logsAt k).set (powL.getD k 0).toNat (k : Int) := by
  unfold logsAt
  rw [List.range_succ, List.foldl_append]; rfl
theorem logsAt_len : ∀ k, (logsAt k).length = 32
  | 0 => rfl
  | k + 1 => by rw [logsAt_succ, List.length_set, logsAt_len k]
theorem logsAt_all : logsAt 31 = logL := by decide +kernel
theorem powL_len : powL.length = 31 := rfl
theorem pow_take {n : Nat} (h : n < 31) : powL.take (n + 1) = powL.take n ++ [powL.getD n 0] := by
  have hl : n < powL.length := h
  rw [List.take_add_one, List.getElem?_eq_getElem hl, List.getD_eq_getElem?_getD, List.getElem?_eq_getElem hl]; rfl
theorem pow_drop {n : Nat} (h : n < 31) : powL.drop n = powL.getD n 0 :: powL.drop (n + 1) := by
  have hl : n < powL.length := h
  rw [List.drop_eq_getElem_cons hl, List.getD_eq_getElem?_getD, List.getElem?_eq_getElem hl]; rfl
theorem pow_last {n : Nat} (h1 : 1 ≤ n) (h2 : n ≤ 31) : (powL.take n).getD (-1 + ((powL.take n).length : Int)).toNat 0 = powL.getD (n - 1) 0 := by
  have hl : (powL.take n).length = n := by rw [List.length_take, powL_len]; omega
  rw [hl, show (-1 + (n : Int)).toNat = n - 1 from by omega, List.getD_eq_getElem?_getD, List.getD_eq_getElem?_getD, List.getElem?_take, if_pos (by omega)]
theorem pow_bnd : ∀ n < 31, 1 ≤ powL.getD n 0 ∧ powL.getD n 0 < 32 := by decide +kernel
/-- what a call of _law_field hands back: the pair of the two lists -/
def FieldR (r : Value) (tl : List (Addr × Obj)) : Prop :=
  ∃ (a lp ll : Addr) (vp vl : List Value) (n : Nat), r = .ref a ∧ tl = [(a, ({ cls := .type "tuple", data := .seq #[.ref lp, .ref ll] } : Obj)), (ll, W.listOf vl.toArray 0), (lp, W.listOf vp.toArray n)] ∧ IntsAre vp powL ∧ IntsAre vl logL
/-- the while's state: the list's values, its version, its length -/
structure PwS where
  ws : List Value
  v : Nat
  n : Nat
theorem cells_nil {cm : Str → Option Value} {cells : List (Addr × Obj)} (x : CellsAre cm [] cells) : cells = [] := by cases x; rfl
local macro_rules | `(tactic| walk_at "exec For Tuple Call cons nil") => `(tactic| (k_here; (rename Fr _ _ _ _ => lF'); (with_unfolding_all refine' For_turns lF' ?_; k_whole)))
theorem field_con {w : World} {mg mb : Str → Option Value} {mean : ExcName → Option Value} {news : List (Addr × Obj)} :
    Con w mg mb mean 72 [] 4 news FieldR := by
  unfold Con
  k_fill
  intro dp un gd cn cs a ccd cl outer A₀ base h₀ L m s Q E B F X N T hk hd hu hret
  refine wpAny_call ?_
  k_dflt (refine' code_defC ?k1 ?k2 ?k3 ?k4 ?k5 ?kA ?kF ?kK ?k6 ?k7 ?k8 ?k9 ?kB ?kD ?_ ?c2 ?c3 ?c4; (case kA => exact rfl); (case kF => exact rfl); (case kK => assumption); (case k1 => k_asm); (case k2 => k_asm); (case k3 => k_asm); (case k4 => k_asm); (case k5 => k_asm); (case k6 => k_is); (case k7 => k_is); (case k8 => ktr_room); (case k9 => exact BindsTo.of_eq rfl); (case kB => exact rfl); (case kD => decide +kernel); (case c2 => exact rfl); (case c3 => exact rfl); (case c4 => exact rfl); k_whole; intro g' L' h' tk' cells' FG' F' N' Y' B' X' T' l1)
  have hY := cells_nil Y'
  subst hY
  clear Y'
  refine rebase_goal (rebase_keeps F') (rebase_size F') ?_
  have hold := rebase_old N' l1
  replace N' := rebase_news N' (by intro p hp; cases hp)
  replace B' := rebase_below F' B'
  replace X' := X'.keeps (rebase_keeps F')
  replace T' := T'.keeps (rebase_keeps F')
  replace FG' := rebase_outer F' FG'
  replace F' := rebase_fr F'
  generalize cut h' L' = g2 at hold N' B' X' T' FG' F' ⊢
  clear l1 g'
  dsimp only
  try k_fold
  iterate 30 (first | (k_unfold; (try dsimp only)) | walk1 | (dsimp only; walk1))
  rename Fr g2 L' _ _ => lF
  rename News g2 L' _ _ => lN
  rename IntsAre _ _ => iL
  rename_i lp _ _ lz _ _ Dl _ nz sz ez e2z e3z o1 Dt _ o2 _ _ _

  refine ksw_while (σ := PwS) (fun c => [(Dl, W.listOf (List.replicate (Int.toNat 32) [Value.int 0 (tk' + 1)]).flatten.toArray 0), (lp, W.listOf c.ws.toArray c.v)]) (fun _ => []) (fun c => IntsAre c.ws (powL.take c.n)) [Str.ofString "double"]
    (fun c => 1 ≤ c.n ∧ c.n ≤ 31) (fun c => 31 - c.n) ⟨[.int 1 _], 0, 1⟩ lF (fun p hp => lN p (by revert p; exact List.forall_mem_cons.mpr ⟨.tail _ (.head _), List.forall_mem_cons.mpr ⟨.tail _ (.tail _ (.tail _ (.head _))), List.forall_mem_nil _⟩⟩)) (by exact .cons _ _ .nil) (List.forall_mem_nil _) (by exact ⟨Nat.le_refl 1, (by decide : 1 ≤ 31)⟩) ?_
  clear lF lN
  rintro ⟨ws, v, n⟩ u h tk hf hP F9 N9
  dsimp only at hf hP F9 N9
  have hlen : ws.length = n := by
    have := hf.length
    rw [List.length_take] at this
    have : powL.length = 31 := rfl
    omega
  have hlen2 : (powL.take n).length = n := by have := hf.length; omega
  try k_fold
  k_steps
  · (rename Fr g2 L' _ _ => fE)
    (rename News g2 L' _ _ => nE)
    have hn : n < 31 := by omega
    have hv : Builtin.bitXor (2 * (powL.take n).getD (-1 + ((powL.take n).length : Int)).toNat 0) 41 = powL.getD n 0 := by
      have := pow_step n hn hP.1 hn
      rw [pow_last hP.1 hP.2] at *
      rwa [if_pos (by omega)] at this
    rw [hv, List.push_toArray] at nE
    refine ksw_end (c' := ⟨ws ++ [.int (powL.getD n 0) _], v + 1, n + 1⟩) fE nE (by kst_in) ?_ (List.forall_mem_nil _) (by intro zz h2 h3; simp only [List.contains_cons, List.contains_nil, Bool.or_false, Bool.or_eq_false_iff, beq_eq_false_iff_ne, ne_eq] at h3; simp [kstB, h3]) ⟨by dsimp only; omega, by dsimp only; omega⟩ (by dsimp only; omega)
    dsimp only
    rw [pow_take hn]
    exact IntsAre.append hf (.cons _ _ .nil)
  · (rename Fr g2 L' _ _ => fE)
    (rename News g2 L' _ _ => nE)
    have hn : n < 31 := by omega
    have hv : 2 * (powL.take n).getD (-1 + ((powL.take n).length : Int)).toNat 0 = powL.getD n 0 := by
      have := pow_step n hn hP.1 hn
      rw [pow_last hP.1 hP.2] at *
      rwa [if_neg (by omega)] at this
    rw [hv, List.push_toArray] at nE
    refine ksw_end (c' := ⟨ws ++ [.int (powL.getD n 0) _], v + 1, n + 1⟩) fE nE (by kst_in) ?_ (List.forall_mem_nil _) (by intro zz h2 h3; simp only [List.contains_cons, List.contains_nil, Bool.or_false, Bool.or_eq_false_iff, beq_eq_false_iff_ne, ne_eq] at h3; simp [kstB, h3]) ⟨by dsimp only; omega, by dsimp only; omega⟩ (by dsimp only; omega)
    dsimp only
    rw [pow_take hn]
    exact IntsAre.append hf (.cons _ _ .nil)
  · have hn : n = 31 := by omega
    subst hn
    (rename Fr g2 L' _ _ => fE)
    (rename News g2 L' _ _ => nE)
    have iP : IntsAre ws (powL.drop 0) := by simpa [show powL.take 31 = powL from rfl] using hf
    with_unfolding_all refine' ktu_enum (lo := W.listOf ws.toArray v) (vs := ws) ?hh fE nE ?hm ?hc ?hd ?hx ?_
    case hh => rfl
    case hm => exact .tail _ (.head _)
    case hc => rfl
    case hd => rfl
    case hx => rfl
    intro I hI
    k_lt hI
    refine items_of (σ := List Value) (fun ls => [(Dl, W.listOf ls.toArray 0), (lp, W.listOf ws.toArray v)]) [(Str.ofString "powers", .ref lp), (Str.ofString "logs", .ref Dl)]
      (fun k r ls => IntsAre r (powL.drop k) ∧ IntsAre ls (logsAt k) ∧ k + r.length = 31) (by kst_all) (c := (List.replicate (Int.toNat 32) [Value.int 0 (tk' + 1)]).flatten) ⟨iP, iL, by omega⟩ ?_ ?_
    · clear fE nE
      rintro k x r ls u T t h9 tk9 ⟨i1, i2, hk1⟩ hT F9
      have hk31 : k < 31 := by simp only [List.length_cons] at hk1; omega
      rw [pow_drop hk31] at i1
      cases i1 with
      | cons _ tx i1' =>
      have hb := pow_bnd k hk31
      have hll := logsAt_len k
      have hsucc := logsAt_succ k
      generalize powL.getD k 0 = pv at hb hsucc hT ⊢
      ktu_objs
      try k_fold
      k_steps
      · exact i1'
      · rw [hsucc]; assumption
      · simp only [List.length_cons] at hk1; omega
      · rename_i pz hpz
        revert pz
        kst_all
    · intro k ls u h9 tk9 hi F9 N9
      obtain ⟨i1, i2, hk1⟩ := hi
      have hk31 : k = 31 := by simpa using hk1
      subst hk31
      rw [logsAt_all] at i2
      try k_fold
      k_steps
      (rename Fr h₀ L _ m => kF)
      (rename News h₀ L _ _ => kN)
      (rename Fr g2 L' _ _ => F8)
      (rename News g2 L' _ _ => N8)
      obtain ⟨hN, hne⟩ := rebase_end F8 N8 kN N hold
      refine hret _ _ _ _ kF hN hne ?_
      exact ⟨_, _, _, _, _, _, rfl, rfl, iP, i2⟩
end
end Mine
theorem Mine.rst_Bd4 : True ∧ True := by
  w_top off
  (try walk1) <;> trivial
namespace Mine
section
open PySem.Calls
/-! a list comprehension over pairs that an iterator hands out (zip), its element stores nothing -/
section
variable {prog : Program} {w : World} {A : Around} {E : Value → Shared → Prop} {env : Env}
theorem compPairU {elt iter : PySem.Expr} {x x₂ : Str} {px px₂ tp : Pos} {tk0} {scope : Scope} {cl : List (Str × Addr)} {pos : Pos} {s₂ : Shared} {I : Addr} {fp wr : List Addr} {n : Nat} {Pt : Nat → Array Value → Prop} {St : Nat → Heap → Prop} {Mid : Nat → Addr → Heap → Prop}
    {RR : Value → Addr → Result → Shared → Prop} (W : WalksU prog w A I fp wr n Pt St Mid) (hsz : n ≤ sizeLine) (hcell : ∀ y ∈ scope.names, y.2 ≠ .cell) (hkind : scope.kind = .function)
    (hx : scope.names.lookup x = some .local) (hx₂ : scope.names.lookup x₂ = some .local) (hxx : x ≠ x₂) (hh : A.handled = none) (hst : St 0 s₂.heap) (hfp : ∀ b ∈ fp, b < s₂.heap.objs.size) (Fy : Nat → Value → Prop)
    (hpair : ∀ i vals, i < n → Pt i vals → ∃ v1 v2, vals = #[v1, v2])
    (hel : ∀ i v1 v2 C m₂ h₃ tk₃ (E' : Value → Shared → Prop), i < n → Pt i #[v1, v2] → h₃.Ns C m₂ → m₂ x = some v1 → m₂ x₂ = some v2 → (∀ b o, b ∉ wr → s₂.heap.get? b = some o → h₃.get? b = some o) →
      wpAny (model prog w) A (eval elt (compEnvC scope cl C env)) (fun y s₄ => Fy i y ∧ ∃ tk, s₄ = { s₂ with heap := h₃, toks := tk }) E' { s₂ with heap := h₃, toks := tk₃ })
    (hRR : ∀ D C h' tk m' ys, s₂.heap.objs.size ≤ D → s₂.heap.objs.size ≤ C → D ≠ C → h'.Ns C m' → h'.get? D = some (LCg.lst ys) → ys.length = n → (∀ j y, ys[j]? = some y → Fy j y) →
      (∀ b o, b ∉ wr → s₂.heap.get? b = some o → h'.get? b = some o) → RR (.ref D) C (.ok .next) { s₂ with heap := h', toks := tk }) :
    wpAny (model prog w) A (newList []) (fun acc s₃ => wpAny (model prog w) A (newFunctionEnv scope env.globals cl [] env.qual none .none (some env)) (fun cenv s₄ =>
      codeAny (model prog w) A (.compStart (.ListComp elt [⟨.Tuple [.Name x px, .Name x₂ px₂] tk0 tp, iter, [], 0⟩] scope pos) 0 (.ref I) acc { cenv with scope := relabel scope env }) (RR acc cenv.locals) s₄) E s₃) E s₂ := by
  refine wpAny_newObj_type (wpAny_newFunctionEnv hcell (by intro y hy; simp at hy) (fun h₁ hns₁ hsb₁ => ?_) hkind)
  dsimp only at hns₁ hsb₁ ⊢
  generalize hH2 : s₂.heap.push { cls := .type "list", dict := none, data := .seq ([] : List Value).toArray } = H2 at hns₁ hsb₁ ⊢
  have hC : H2.objs.size = s₂.heap.objs.size + 1 := by rw [← hH2, Heap.size_push]
  generalize hD : s₂.heap.objs.size = D at hC ⊢
  have hDC : D ≠ H2.objs.size := by omega
  have small : ∀ b o, s₂.heap.get? b = some o → b ≠ H2.objs.size ∧ b ≠ D := fun b o e => by
    have h9 : @LT.lt Nat _ b s₂.heap.objs.size := Heap.lt_size e
    exact ⟨Nat.ne_of_lt (by omega), Nat.ne_of_lt (by omega)⟩
  have hfp' : ∀ b ∈ fp, b ≠ H2.objs.size ∧ b ≠ D := fun b hb => by
    have h9 : @LT.lt Nat _ b s₂.heap.objs.size := hfp b hb
    exact ⟨Nat.ne_of_lt (by omega), Nat.ne_of_lt (by omega)⟩
  have old : ∀ b o, s₂.heap.get? b = some o → h₁.get? b = some o := fun b o e => hsb₁.extBut b o (small b o e).1 (Heap.get?_push_of_some _ (hH2 ▸ Heap.get?_push_of_some _ e))
  have hacc : h₁.get? D = some (LCg.lst []) := hsb₁.extBut _ _ hDC (Heap.get?_push_of_some _ (by rw [← hH2, ← hD]; exact Heap.get?_push_size _ rfl))
  have hst₁ : St 0 h₁ := W.frame _ _ _ hst fun b _ o e => old b o e
  have loop : ∀ s₃ : Shared, s₃ = { s₂ with heap := h₁, toks := s₂.toks + ([] : List (Str × Value)).length } →
      codeAny (model prog w) A (.compLoop (.ListComp elt [⟨.Tuple [.Name x px, .Name x₂ px₂] tk0 tp, iter, [], 0⟩] scope pos) 0 (.ref I) (.ref D) (compEnvC scope cl H2.objs.size env)) (RR (.ref D) H2.objs.size) s₃ := by
    rintro s₃ rfl
    refine LCp.codeAny_compLoop_pair
      (fun k s' => ∃ h' tk i ys m', s' = { s₂ with heap := h', toks := tk } ∧ i ≤ n ∧ k = n + 1 - i ∧ ys.length = i ∧ St i h' ∧ h'.Ns H2.objs.size m' ∧ h'.get? D = some (LCg.lst ys) ∧ (∀ j y, ys[j]? = some y → Fy j y) ∧
        (∀ b o, b ∉ wr → s₂.heap.get? b = some o → h'.get? b = some o)) ?_ (n + 1) ⟨h₁, _, 0, [], _, rfl, Nat.zero_le _, rfl, rfl, hst₁, hns₁, hacc, (by intro j y hj; simp at hj), fun b o _ e => old b o e⟩
    rintro k s' ⟨h', tk, i, ys, m', rfl, hi, rfl, hyl, hst', hn', hD', hF', hk'⟩
    have hDwr : D ∉ wr := fun q => (hfp' D (W.sub D q)).2 rfl
    have hCwr : H2.objs.size ∉ wr := fun q => (hfp' _ (W.sub _ q)).1 rfl
    by_cases hlt : i < n
    · refine W.item i _ _ _ hlt hst' fun T vals h₂ tk₂ hP hT hMid hk₂ => ?_
      obtain ⟨v1, v2, rfl⟩ := hpair i vals hlt hP
      refine W.go _ _ _ i T _ _ _ hMid fun h₃ hst₃ hk₃ => ?_
      have hT₃ : IsTup h₃ T #[v1, v2] := hT.at fun o e => hk₃ T o (W.apart i T _ hMid) e
      refine assign_Tuple_tuple hh hT₃ rfl rfl fun h₅ he => ?_
      have he' : ∀ b o, h₃.get? b = some o → h₅.get? b = some o := fun b o e => he b o (Nat.ne_of_lt (Heap.lt_size e)) e
      have up : ∀ b o, b ∉ wr → h'.get? b = some o → h₅.get? b = some o := fun b o hb e => he' b o (hk₃ b o hb (hk₂ b o hb e))
      have hst₅ : St (i + 1) h₅ := W.frame _ _ _ hst₃ fun b _ o e => he' b o e
      refine assignInOrder_cons (wpAny_assign_Name (wpAny_storeName_local (lookup_relabel_local hx) (hn'.at' fun o e => up _ o hCwr e) (fun h₆ hn₆ hs₆ => ?_) (by simp [compEnvC, relabel, hkind])))
      refine assignInOrder_cons (wpAny_assign_Name (wpAny_storeName_local (lookup_relabel_local hx₂) hn₆ (fun h₇ hn₇ hs₇ => ?_) (by simp [compEnvC, relabel, hkind])))
      refine assignInOrder_nil ?_
      have up7 : ∀ b o, b ≠ H2.objs.size → h₅.get? b = some o → h₇.get? b = some o := fun b o hb e => hs₇.extBut b o hb (hs₆.extBut b o hb e)
      have hst₇ : St (i + 1) h₇ := W.frame _ _ _ hst₅ fun b hb o e => up7 b o (hfp' b hb).1 e
      have hD₇ : h₇.get? D = some (LCg.lst ys) := up7 _ _ hDC (up _ _ hDwr hD')
      refine wpAny_mono (hel i v1 v2 H2.objs.size _ h₇ _ _ hlt hP hn₇ (by simp [hxx]) (by simp) fun b o hb e => up7 b o (small b o e).1 (up b o hb (hk' b o hb e))) (fun y s₄ h₄ => ?_) fun _ _ e => e
      obtain ⟨hy, tk₄, rfl⟩ := h₄
      refine append_at (hsz := by show ys.toArray.size ≤ sizeLine; rw [List.size_toArray, hyl]; exact Nat.le_trans hi hsz) hD₇ fun h₈ hs₈ hD₈ => ?_
      refine ⟨n + 1 - (i + 1), by omega, h₈, tk₄, i + 1, ys ++ [y], _, rfl, hlt, rfl, by rw [List.length_append, List.length_singleton, hyl], W.frame _ _ _ hst₇ fun b hb o e => hs₈.extBut b o (hfp' b hb).2 e,
        hn₇.sameBut hs₈ (Ne.symm hDC), hD₈.trans (congrArg some (LCg.lst_snoc ys y)), fun j z hj => ?_, fun b o hb e => hs₈.extBut b o (small b o e).2 (up7 b o (small b o e).1 (up b o hb (hk' b o hb e)))⟩
      rcases Nat.lt_trichotomy j ys.length with h1 | h1 | h1
      · rw [List.getElem?_append_left h1] at hj; exact hF' j z hj
      · subst h1
        rw [List.getElem?_append_right (Nat.le_refl _)] at hj
        simp only [Nat.sub_self, List.getElem?_cons_zero, Option.some.injEq] at hj
        subst hj; rw [hyl]; exact hy
      · rw [List.getElem?_append_right (by omega), List.getElem?_eq_none (by rw [List.length_singleton]; omega)] at hj; cases hj
    · obtain rfl : i = n := by omega
      refine W.done _ _ _ hst' fun h₂ tk₂ hk₂ => ?_
      exact hRR D H2.objs.size h₂ tk₂ _ ys (by omega) (by omega) hDC (hn'.at' fun o e => hk₂ _ o hCwr e) (hk₂ _ _ hDwr hD') hyl hF' fun b o hb e => hk₂ b o hb (hk' b o hb e)
  exact codeAny_compStart_list (loop _ rfl) (W.self 0 _ _ _ hst₁ (loop _ rfl))
end
end
end Mine
theorem Mine.rst_BdZ : True ∧ True := by
  w_top off
  (try walk1) <;> trivial
namespace Mine
section
open PySem.Calls PySem.Builtin
/-! zip over two iterators of any kind that draw (lists, texts) -/
structure Z2 (z TI TO i1 i2 : Addr) (fp1 fp2 : List Addr) : Prop where
  TIz : TI ≠ z
  TOz : TO ≠ z
  i1z : i1 ≠ z
  i2z : i2 ≠ z
  TITO : TI ≠ TO
  TIi1 : TI ≠ i1
  TIi2 : TI ≠ i2
  TOi1 : TO ≠ i1
  TOi2 : TO ≠ i2
  i12 : i1 ≠ i2
  f1z : ∀ b ∈ fp1, b ≠ z
  f1TO : ∀ b ∈ fp1, b ≠ TO
  f1i2 : ∀ b ∈ fp1, b ≠ i2
  f2z : ∀ b ∈ fp2, b ≠ z
  f2TO : ∀ b ∈ fp2, b ≠ TO
  f2i1 : ∀ b ∈ fp2, b ≠ i1
section
variable {prog : Program} {w : World} {A : Around} {E : Value → Shared → Prop} {s : Shared} {z TI TO i1 i2 : Addr} {fp1 fp2 : List Addr} {n1 n2 : Nat} {P1 P2 : Nat → Value → Prop} {St1 St2 : Nat → Heap → Prop}
theorem dr_frame {it : Addr} {fp : List Addr} {n k : Nat} {P : Nat → Value → Prop} {St : Nat → Heap → Prop} {h h' : Heap} {c : Addr} (D : Draws prog w A it fp n P St) (st : St k h) (hs : Heap.ExtBut c h h') (hc : ∀ b ∈ fp, b ≠ c) : St k h' :=
  D.frame k h h' st fun b hb o e => hs b o (hc b hb) e
theorem zipD_item {k : Nat} {a b : Value} {Q : Value → Shared → Prop} (Z : Z2 z TI TO i1 i2 fp1 fp2) (D1 : Draws prog w A i1 fp1 n1 P1 St1) (D2 : Draws prog w A i2 fp2 n2 P2 St2)
    (hz : IsZip s.heap z TI TO .none) (hTI : IsPair s.heap TI (.ref i1) (.ref i2)) (hTO : IsPair s.heap TO a b) (h1 : St1 k s.heap) (h2 : St2 k s.heap) (hk1 : k < n1) (hk2 : k < n2)
    (hQ : ∀ x y h' tk, P1 k x → P2 k y → IsZip h' z TI TO (rawInt s.heap.objs.size) → IsPair h' TO x y → St1 (k + 1) h' → St2 (k + 1) h' → IsPair h' s.heap.objs.size x y →
      (∀ c o, c ≠ z → c ≠ TO → c ≠ i1 → c ≠ i2 → s.heap.get? c = some o → h'.get? c = some o) → Q (.ref s.heap.objs.size) { s with heap := h', toks := tk }) :
    wpAny (model prog w) A (Builtin.«zip.__next__» ⟨[.ref z], []⟩) (fun fin s' => ∃ v, fin = .done (.ret v) ∧ Q v s') E s := by
  show wpAny _ _ (field (.ref z) 2 >>= _) _ _ _
  refine wpAny_bind (wpAny_field hz rfl (x := .bool false) rfl ?_)
  show wpAny _ _ (field (.ref z) 3 >>= _) _ _ _
  refine wpAny_bind (wpAny_field hz rfl (x := .ref TI) rfl ?_)
  refine wpAny_bind (wpAny_seqItems hTI rfl ?_)
  show wpAny _ _ (Builtin.SmallTypes.ownedTupleIsFree (.ref z) >>= _) _ _ _
  refine wpAny_bind ?_
  unfold Builtin.SmallTypes.ownedTupleIsFree
  refine wpAny_bind (wpAny_field hz rfl (x := .none) rfl (wpAny_pure ?_))
  simp only [if_true]
  refine wpAny_bind (wpAny_rule ?_)
  refine wpAny_bind (wpAny_field hz rfl (x := .ref TO) rfl ?_)
  refine wpAny_bind (wpAny_setField_rec hz (by simp) fun g1 hz1 hs1 => ?_)
  replace hz1 : IsZip g1 z TI TO .ellipsis := hz1
  refine wpAny_bind ?_
  simp only [List.zipIdx_cons, List.zipIdx_nil, List.forIn_cons, List.forIn_nil]
  refine wpAny_bind (wpAny_bind (wpAny_onRaise ?_))
  show wpAny _ _ (Builtin.SmallTypes.nextOf (.ref i1) >>= _) _ _ _
  refine wpAny_bind (D1.item k _ _ _ hk1 (dr_frame D1 h1 hs1.extBut Z.f1z) fun x g2 tk2 hx st1 hs2 => wpAny_pure ?_)
  have hTO2 : IsPair g2 TO a b := hs2.extBut _ _ Z.TOi1 (hs1.extBut _ _ Z.TOz hTO)
  refine wpAny_bind (wpAny_seqItems hTO2 rfl ?_)
  refine wpAny_bind (wpAny_updateSeq_pair hTO2 fun g3 hTO3 hs3 => ?_)
  replace hTO3 : IsPair g3 TO x b := hTO3
  refine wpAny_bind (wpAny_letGo (wpAny_pure ?_))
  refine wpAny_bind (wpAny_bind (wpAny_onRaise ?_))
  show wpAny _ _ (Builtin.SmallTypes.nextOf (.ref i2) >>= _) _ _ _
  refine wpAny_bind (D2.item k _ _ _ hk2 (dr_frame D2 (dr_frame D2 (dr_frame D2 h2 hs1.extBut Z.f2z) hs2.extBut Z.f2i1) hs3.extBut Z.f2TO) fun y g4 tk4 hy st2 hs4 => wpAny_pure ?_)
  have hTO4 : IsPair g4 TO x b := hs4.extBut _ _ Z.TOi2 hTO3
  refine wpAny_bind (wpAny_seqItems hTO4 rfl ?_)
  refine wpAny_bind (wpAny_updateSeq_pair hTO4 fun g5 hTO5 hs5 => ?_)
  replace hTO5 : IsPair g5 TO x y := hTO5
  refine wpAny_bind (wpAny_letGo (wpAny_pure (wpAny_pure ?_)))
  refine wpAny_bind (wpAny_seqItems hTO5 rfl ?_)
  refine wpAny_bind (wpAny_newTuple ?_)
  have hsz : g5.objs.size = s.heap.objs.size := by rw [hs5.1, hs4.1, hs3.1, hs2.1, hs1.1]
  have hz5 : IsZip g5 z TI TO .ellipsis := hs5.extBut _ _ Z.TOz.symm (hs4.extBut _ _ Z.i2z.symm (hs3.extBut _ _ Z.TOz.symm (hs2.extBut _ _ Z.i1z.symm hz1)))
  have keep5 : ∀ c o, c ≠ z → c ≠ TO → c ≠ i1 → c ≠ i2 → s.heap.get? c = some o → g5.get? c = some o := fun c o c1 c2 c3 c4 e =>
    hs5.extBut _ _ c2 (hs4.extBut _ _ c4 (hs3.extBut _ _ c2 (hs2.extBut _ _ c3 (hs1.extBut _ _ c1 e))))
  have st15 : St1 (k + 1) g5 := dr_frame D1 (dr_frame D1 (dr_frame D1 st1 hs3.extBut Z.f1TO) hs4.extBut Z.f1i2) hs5.extBut Z.f1TO
  have st25 : St2 (k + 1) g5 := dr_frame D2 st2 hs5.extBut Z.f2TO
  have hzlt : z < g5.objs.size := Heap.lt_size hz5
  show wpAny _ _ (Builtin.SmallTypes.ownedTupleHandOut (.ref z) (.ref g5.objs.size) >>= _) _ _ _
  refine wpAny_bind ?_
  unfold Builtin.SmallTypes.ownedTupleHandOut
  have hz6 : IsZip (g5.push { cls := .type "tuple", data := .seq #[x, y] }) z TI TO .ellipsis := Heap.get?_push_of_some _ hz5
  refine wpAny_bind (wpAny_setField_rec hz6 (by simp) fun g7 hz7 hs7 => ?_)
  replace hz7 : IsZip g7 z TI TO (rawInt g5.objs.size) := hz7
  refine wpAny_setField_rec hz7 (by simp) fun g8 hz8 hs8 => ?_
  replace hz8 : IsZip g8 z TI TO (rawInt g5.objs.size) := hz8
  have up : ∀ c o, c ≠ z → g5.get? c = some o → g8.get? c = some o := fun c o c1 e => hs8.extBut _ _ c1 (hs7.extBut _ _ c1 (Heap.get?_push_of_some _ e))
  have hT8 : IsPair g8 g5.objs.size x y := hs8.extBut _ _ (Nat.ne_of_gt hzlt) (hs7.extBut _ _ (Nat.ne_of_gt hzlt) (Heap.get?_push_size _ rfl))
  rw [hsz] at hz8 hT8
  refine wpAny_pure ⟨_, rfl, ?_⟩
  show Q (.ref g5.objs.size) _
  rw [hsz]
  exact hQ x y g8 tk4 hx hy hz8 (up _ _ Z.TOz hTO5) (D1.frame _ _ _ st15 fun b hb o e => up b o (Z.f1z b hb) e) (D2.frame _ _ _ st25 fun b hb o e => up b o (Z.f2z b hb) e) hT8
    fun c o c1 c2 c3 c4 e => up c o c1 (keep5 c o c1 c2 c3 c4 e)

/-- the end: the first of the two has no more -/
theorem zipD_end {a b : Value} {Q : Fin → Shared → Prop} (Z : Z2 z TI TO i1 i2 fp1 fp2) (D1 : Draws prog w A i1 fp1 n1 P1 St1)
    (hz : IsZip s.heap z TI TO .none) (hTI : IsPair s.heap TI (.ref i1) (.ref i2)) (hTO : IsPair s.heap TO a b) (h1 : St1 n1 s.heap)
    (hE : ∀ h' e, (∀ c o, c ≠ z → c ≠ TO → c ≠ i1 → c ≠ i2 → s.heap.get? c = some o → h'.get? c = some o) → (∃ o, h'.get? e = some o ∧ o.cls = .type "StopIteration") → E (.ref e) { s with heap := h' }) :
    wpAny (model prog w) A (Builtin.«zip.__next__» ⟨[.ref z], []⟩) Q E s := by
  show wpAny _ _ (field (.ref z) 2 >>= _) _ _ _
  refine wpAny_bind (wpAny_field hz rfl (x := .bool false) rfl ?_)
  show wpAny _ _ (field (.ref z) 3 >>= _) _ _ _
  refine wpAny_bind (wpAny_field hz rfl (x := .ref TI) rfl ?_)
  refine wpAny_bind (wpAny_seqItems hTI rfl ?_)
  show wpAny _ _ (Builtin.SmallTypes.ownedTupleIsFree (.ref z) >>= _) _ _ _
  refine wpAny_bind ?_
  unfold Builtin.SmallTypes.ownedTupleIsFree
  refine wpAny_bind (wpAny_field hz rfl (x := .none) rfl (wpAny_pure ?_))
  simp only [if_true]
  refine wpAny_bind (wpAny_rule ?_)
  refine wpAny_bind (wpAny_field hz rfl (x := .ref TO) rfl ?_)
  refine wpAny_bind (wpAny_setField_rec hz (by simp) fun g1 hz1 hs1 => ?_)
  replace hz1 : IsZip g1 z TI TO .ellipsis := hz1
  refine wpAny_bind ?_
  simp only [List.zipIdx_cons, List.zipIdx_nil, List.forIn_cons, List.forIn_nil]
  refine wpAny_bind (wpAny_bind (wpAny_onRaise ?_))
  show wpAny _ _ (Builtin.SmallTypes.nextOf (.ref i1) >>= _) _ _ _
  refine wpAny_bind (D1.done _ _ _ (dr_frame D1 h1 hs1.extBut Z.f1z) fun g2 e hs2 he => ?_)
  obtain ⟨oe, hoe, hce⟩ := he
  have hz2 : IsZip g2 z TI TO .ellipsis := hs2 _ _ Z.i1z.symm hz1
  have hez : e ≠ z := fun q => by subst q; rw [hz2] at hoe; cases hoe; simp at hce
  refine wpAny_setField_rec hz2 (by simp) fun g3 _ hs3 => hE g3 e (fun c o c1 _ c3 _ q => hs3.extBut _ _ c1 (hs2 _ _ c3 (hs1.extBut _ _ c1 q))) ⟨oe, hs3.extBut _ _ hez hoe, hce⟩
theorem zipD_walks (hh : A.handled = none) (Z : Z2 z TI TO i1 i2 fp1 fp2) {n : Nat} (D1 : ∀ A' : Around, A'.handled = none → Draws prog w A' i1 fp1 n P1 St1) (D2 : ∀ A' : Around, A'.handled = none → Draws prog w A' i2 fp2 n P2 St2) :
    WalksU prog w A z (z :: TI :: TO :: i1 :: i2 :: (fp1 ++ fp2)) [z, TO, i1, i2] n (fun i vals => ∃ x y, P1 i x ∧ P2 i y ∧ vals = #[x, y])
      (fun i h => IsZip h z TI TO .none ∧ IsPair h TI (.ref i1) (.ref i2) ∧ (∃ a b, IsPair h TO a b) ∧ St1 i h ∧ St2 i h)
      (fun i T h => IsZip h z TI TO (rawInt T) ∧ IsPair h TI (.ref i1) (.ref i2) ∧ (∃ a b, IsPair h TO a b) ∧ St1 (i + 1) h ∧ St2 (i + 1) h ∧ T ∉ [z, TO, i1, i2]) where
  sub := fun c hc => by simp at hc ⊢; rcases hc with rfl | rfl | rfl | rfl <;> simp
  frame := fun i h h' hst hk => by
    obtain ⟨hz, hTI, ⟨a, b, hTO⟩, h1, h2⟩ := hst
    exact ⟨hk z (by simp) _ hz, hk TI (by simp) _ hTI, ⟨a, b, hk TO (by simp) _ hTO⟩, (D1 A hh).frame i h h' h1 fun b hb o e => hk b (by simp [hb]) o e, (D2 A hh).frame i h h' h2 fun b hb o e => hk b (by simp [hb]) o e⟩
  item := fun i s Q E hi hst hQ => by
    obtain ⟨hz, hTI, ⟨a, b, hTO⟩, h1, h2⟩ := hst
    have hT : s.TypeIs (.ref z) "zip" := ⟨_, hz, rfl⟩
    obtain ⟨o1, ho1⟩ := (D1 A hh).live _ _ h1
    obtain ⟨o2, ho2⟩ := (D2 A hh).live _ _ h2
    unfold pyNext
    refine wpAny_bind (wpAny_attempt (wpAny_callSpecial?_slot (name := Str.ofString "__next__") hT F.slot_zip_next
      (wpAny_call_entry F.slot_zip_next hT F.entry_zip_next
        (zipD_item Z (D1 _ hh) (D2 _ hh) hz hTI hTO h1 h2 hi hi fun x y h' tk hx hy a1 a2 a3 a4 a5 hk => wpAny_pure ?_) (F.args_zip_next_1 _))))
    have lt : ∀ {c o}, s.heap.get? c = some o → s.heap.objs.size ≠ c := fun e => Nat.ne_of_gt (Heap.lt_size e)
    refine hQ s.heap.objs.size #[x, y] h' tk ⟨x, y, hx, hy, rfl⟩ ⟨_, a5, rfl, _, rfl⟩ ⟨a1, hk _ _ Z.TIz Z.TITO Z.TIi1 Z.TIi2 hTI, ⟨_, _, a2⟩, a3, a4, ?_⟩
      fun c o hc e => hk c o (fun q => hc (by simp [q])) (fun q => hc (by simp [q])) (fun q => hc (by simp [q])) (fun q => hc (by simp [q])) e
    intro hm
    simp at hm
    rcases hm with q | q | q | q
    · exact lt hz q
    · exact lt hTO q
    · exact lt ho1 q
    · exact lt ho2 q
  go := fun elts k pos i T s Q E hm hQ => by
    obtain ⟨hz, hTI, ⟨a, b, hTO⟩, h1, h2, _⟩ := hm
    refine wpAny_letOwnedTupleGo_zip hz fun h' hz' hs' => hQ h' ⟨hz', hs'.extBut _ _ Z.TIz hTI, ⟨a, b, hs'.extBut _ _ Z.TOz hTO⟩, dr_frame (D1 A hh) h1 hs'.extBut Z.f1z, dr_frame (D2 A hh) h2 hs'.extBut Z.f2z⟩
      fun c o hc e => hs'.extBut _ _ (fun q => hc (by simp [q])) e
  apart := fun i T h hm => hm.2.2.2.2.2
  done := fun s Q E hst hQ => by
    obtain ⟨hz, hTI, ⟨a, b, hTO⟩, h1, h2⟩ := hst
    have hT : s.TypeIs (.ref z) "zip" := ⟨_, hz, rfl⟩
    unfold pyNext
    refine wpAny_bind (wpAny_attempt (wpAny_callSpecial?_slot (name := Str.ofString "__next__") hT F.slot_zip_next
      (wpAny_call_entry F.slot_zip_next hT F.entry_zip_next (zipD_end Z (D1 _ hh) hz hTI hTO h1 fun h' e hk he => ?_) (F.args_zip_next_1 _))))
    obtain ⟨o, ho, hc⟩ := he
    refine wpAny_bind (wpAny_isInstance (T := "StopIteration") (b := true) ⟨o, ho, hc⟩ isSubtype_stop ?_)
    exact wpAny_pure (hQ _ s.toks fun c o hc e => hk c o (fun q => hc (by simp [q])) (fun q => hc (by simp [q])) (fun q => hc (by simp [q])) (fun q => hc (by simp [q])) e)
  self := fun i s Q E hst hQ => wpAny_pyIter_zip hst.1 hQ
end
end
end Mine
theorem Mine.rst_BdZ2 : True ∧ True := by
  w_top off
  (try walk1) <;> trivial
namespace Mine
section
open PySem.Calls PySem.Builtin
section
variable {prog : Program} {w : World} {A : Around} {E : Value → Shared → Prop} {s : Shared} {env : Env} {h₀ : Heap} {L : Addr} {m : Str → Option Value} {news : List (Addr × Obj)}
def PairSrc (prog : Program) (w : World) (A : Around) (env : Env) (elt : PySem.Expr) (x x₂ : Str) (scope : Scope) (cl : List (Str × Addr)) (Q : Value → Shared → Prop) (xv : Value) (s₁ : Shared) : Prop :=
  ∃ (z : Addr) (fp wr : List Addr) (n : Nat) (Pt : Nat → Array Value → Prop) (St : Nat → Heap → Prop) (Mid : Nat → Addr → Heap → Prop) (Fy : Nat → Value → Prop),
    xv = .ref z ∧ A.handled = none ∧ WalksU prog w A z fp wr n Pt St Mid ∧ n ≤ sizeLine ∧ St 0 s₁.heap ∧ (∀ b ∈ fp, b < s₁.heap.objs.size) ∧ (∀ i vals, i < n → Pt i vals → ∃ v1 v2, vals = #[v1, v2]) ∧
    (∀ i v1 v2 C m₂ h₃ tk₃ (E' : Value → Shared → Prop), i < n → Pt i #[v1, v2] → h₃.Ns C m₂ → m₂ x = some v1 → m₂ x₂ = some v2 → (∀ b o, b ∉ wr → s₁.heap.get? b = some o → h₃.get? b = some o) →
      wpAny (model prog w) A (eval elt (compEnvC scope cl C env)) (fun y s₄ => Fy i y ∧ ∃ tk, s₄ = { s₁ with heap := h₃, toks := tk }) E' { s₁ with heap := h₃, toks := tk₃ }) ∧
    ∀ D h' tk ys, s₁.heap.objs.size ≤ D → h'.get? D = some (LCg.lst ys) → ys.length = n → (∀ j y, ys[j]? = some y → Fy j y) → (∀ b o, b ∉ wr → s₁.heap.get? b = some o → h'.get? b = some o) → Q (.ref D) { s₁ with heap := h', toks := tk }
theorem ListComp_Z {elt iter : PySem.Expr} {x x₂ : Str} {px px₂ tp : Pos} {tk0} {scope : Scope} {cl : List (Str × Addr)} {pos : Pos} {Q : Value → Shared → Prop}
    (hclos : closureFor scope env = pure cl) (hcell : ∀ y ∈ scope.names, y.2 ≠ .cell) (hkind : scope.kind = .function)
    (hnames : ∀ y ∈ scope.names, y.2 = .local → scope.names.lookup y.1 = some .local) (hx : scope.names.lookup x = some .local) (hx₂ : scope.names.lookup x₂ = some .local) (hxx : x ≠ x₂)
    (h : wpAny (model prog w) A (eval iter env) (PairSrc prog w A env elt x x₂ scope cl Q) E s)
    (hs : ∀ x, foldedSetIterable iter env x = pure x := by intro _; rfl) :
    wpAny (model prog w) A (eval (.ListComp elt [⟨.Tuple [.Name x px, .Name x₂ px₂] tk0 tp, iter, [], 0⟩] scope pos) env) Q E s := by
  rw [eval_ListComp]
  refine wpAny_comprehension_free (use := none) rfl hs hclos hkind hnames (wpAny_mono h (fun xv s₁ h₁ => ?_) fun _ _ e => e)
  obtain ⟨z, fp, wr, n, Pt, St, Mid, Fy, rfl, hh, W, hsz, hst, hfp, hpair, hel, hfin⟩ := h₁
  refine W.self 0 _ _ _ hst ?_
  refine compPairU W hsz hcell hkind hx hx₂ hxx hh hst hfp Fy hpair hel fun D C h' tk m' ys hD hC hDC hn hl hlen hF hk => ?_
  refine ⟨m', hn, fun h'' hs'' => hfin D h'' tk ys hD (hs''.extBut _ _ hDC hl) hlen hF fun b o hb e => hs''.extBut b o ?_ (hk b o hb e)⟩
  have : @LT.lt Nat _ b s₁.heap.objs.size := Heap.lt_size e
  exact Nat.ne_of_lt (Nat.lt_of_lt_of_le this hC)

/-- zip over two lists -/
theorem zip_lists {elt : PySem.Expr} {x x₂ : Str} {scope : Scope} {cl : List (Str × Addr)} {Q : Value → Shared → Prop} {l1 l2 : Addr} {xs ys : List Value} (hh : A.handled = none) (F : Fr h₀ L s.heap m) (N : News h₀ L s.heap news)
    (hl1 : s.heap.IsList l1 xs.toArray) (hl2 : s.heap.IsList l2 ys.toArray) (hlen : xs.length = ys.length) (hsz : xs.length ≤ sizeLine) (Fy : Nat → Value → Prop)
    (hel : ∀ i v1 v2 C m₂ h₃ tk₃ (E' : Value → Shared → Prop), xs[i]? = some v1 → ys[i]? = some v2 → h₃.Ns C m₂ → m₂ x = some v1 → m₂ x₂ = some v2 → Fr h₀ L h₃ m → News h₀ L h₃ news →
      wpAny (model prog w) A (eval elt (compEnvC scope cl C env)) (fun y s₄ => Fy i y ∧ ∃ tk, s₄ = { s with heap := h₃, toks := tk }) E' { s with heap := h₃, toks := tk₃ })
    (hfin : ∀ D h' tk zs, Fr h₀ L h' m → News h₀ L h' ((D, LCg.lst zs) :: news) → (∀ p ∈ news, p.1 < D) → zs.length = xs.length → (∀ j y, zs[j]? = some y → Fy j y) → Q (.ref D) { s with heap := h', toks := tk }) :
    wpAny (model prog w) A (call (.type "zip") [.ref l1, .ref l2]) (PairSrc prog w A env elt x x₂ scope cl Q) E s := by
  have k1 : @LT.lt Nat _ l1 s.heap.objs.size := by obtain ⟨_, e, _⟩ := hl1; exact Heap.lt_size e
  have k2 : @LT.lt Nat _ l2 s.heap.objs.size := by obtain ⟨_, e, _⟩ := hl2; exact Heap.lt_size e
  have kL : @LT.lt Nat _ L s.heap.objs.size := F.ns.lt
  refine call_zip_2 hl1 hl2 fun h' hz hTI hTO hi1 hi2 hs5 hk => ?_
  generalize hS : s.heap.objs.size = S at *
  have ne : ∀ {a b : Nat}, a ≠ b → a ≠ b := fun q => q
  have Z : Z2 (S + 4) (S + 2) (S + 3) S (S + 1) [S, l1] [S + 1, l2] := by
    constructor <;> first
      | (refine ne ?_; omega)
      | (intro b hb; simp only [List.mem_cons, List.not_mem_nil, or_false] at hb; rcases hb with rfl | rfl <;> (refine ne ?_; omega))
  have low : ∀ b o, s.heap.get? b = some o → b ∉ [S + 4, S + 3, S, S + 1] := fun b o e hm => by
    have h9 : @LT.lt Nat _ b S := by rw [← hS]; exact Heap.lt_size e
    simp only [List.mem_cons, List.not_mem_nil, or_false] at hm
    rcases hm with q | q | q | q <;> (have q' : @Eq Nat b _ := q; omega)
  have up : ∀ (h₃ : Heap), (∀ b o, b ∉ [S + 4, S + 3, S, S + 1] → h'.get? b = some o → h₃.get? b = some o) → Fr h₀ L h₃ m ∧ News h₀ L h₃ news := fun h₃ hk₃ =>
    ⟨F.keeps fun b o e => hk₃ b o (low b o e) (hk b o e), N.grown fun b o e => hk₃ b o (low b o e) (hk b o e)⟩
  have hn : xs.toArray.size = xs.length := List.size_toArray ..
  have hn2 : ys.toArray.size = xs.length := by rw [List.size_toArray, hlen]
  refine ⟨S + 4, _, _, xs.length, _, _, _, Fy, rfl, hh, zipD_walks hh Z (n := xs.length) (fun A' hA => hn ▸ Draws.list hA S l1 (ne (by omega)) xs.toArray) (fun A' hA => hn2 ▸ Draws.list hA (S + 1) l2 (ne (by omega)) ys.toArray), hsz,
    ⟨hz, hTI, ⟨_, _, hTO⟩, ⟨hi1, hl1.at fun o e => hk _ o e⟩, hi2, hl2.at fun o e => hk _ o e⟩, ?_, ?_, ?_, ?_⟩
  · intro b hb
    show @LT.lt Nat _ b h'.objs.size
    rw [hs5]
    simp only [List.mem_cons, List.mem_append, List.not_mem_nil, or_false] at hb
    rcases hb with q | q | q | q | q | (q | q) | (q | q) <;> (have q' : @Eq Nat b _ := q; omega)
  · rintro i vals _ ⟨v1, v2, _, _, rfl⟩
    exact ⟨v1, v2, rfl⟩
  · rintro i v1 v2 C m₂ h₃ tk₃ E' _ ⟨a1, a2, p1, p2, e⟩ hns hm1 hm2 hk₃
    have e1 : v1 = a1 ∧ v2 = a2 := by simpa using e
    obtain ⟨rfl, rfl⟩ := e1
    obtain ⟨F3, N3⟩ := up h₃ hk₃
    exact hel i v1 v2 C m₂ h₃ tk₃ E' (by simpa using p1) (by simpa using p2) hns hm1 hm2 F3 N3
  · intro D h₃ tk zs hD hl hlen3 hF hk₃
    obtain ⟨F3, N3⟩ := up h₃ hk₃
    have hD' : @LE.le Nat _ (S + 5) D := by rw [← hs5]; exact hD
    refine hfin D h₃ tk zs F3 (fun p hp => ?_) (fun p hp => ?_) hlen3 hF
    · rcases List.mem_cons.mp hp with rfl | hp
      · refine ⟨hl, ne (by omega), ?_⟩
        cases q : h₀.get? D with
        | none => rfl
        | some o => exact absurd (Heap.lt_size (F.keep _ _ q)) (by rw [hS]; exact Nat.not_lt.mpr (by omega))
      · exact N3 p hp
    · have h9 : @LT.lt Nat _ p.1 S := by rw [← hS]; exact Heap.lt_size (N p hp).1
      exact Nat.lt_of_lt_of_le h9 (by omega)
end
end
end Mine
theorem Mine.rst_BdZ3 : True ∧ True := by
  w_top off
  (try walk1) <;> trivial
namespace Mine
section
open PySem.Calls PySem.Builtin
abbrev sIt (x : Str) (t : Tok) : Obj := { cls := .type (strIterType x), data := .fields #[.str x t, .int 0 0] }
abbrev zs1 (h : Heap) (x : Str) (t : Tok) : Heap := h.push (sIt x t)
abbrev zs2 (h : Heap) (x y : Str) (t u : Tok) : Heap := (zs1 h x t).push (sIt y u)
abbrev zs3 (h : Heap) (x y : Str) (t u : Tok) : Heap := (zs2 h x y t u).push { cls := .type "tuple", data := .seq #[.ref h.objs.size, .ref (zs1 h x t).objs.size] }
abbrev zs4 (h : Heap) (x y : Str) (t u : Tok) : Heap := (zs3 h x y t u).push { cls := .type "tuple", data := .seq #[.none, .none] }
abbrev zs5 (h : Heap) (x y : Str) (t u : Tok) : Heap := (zs4 h x y t u).push { cls := .type "zip", data := .fields #[.none, .bool false, .bool false, .ref (zs2 h x y t u).objs.size, .ref (zs3 h x y t u).objs.size] }
set_option maxHeartbeats 2000000 in
theorem meets_zip_texts (x y : Str) (t u : Tok) :
    Meets (Builtin.«zip.__new__» ⟨[.type "zip", .str x t, .str y u], []⟩) (fun _ R s => R (.ok (.ret (.ref (zs4 s.heap x y t u).objs.size))) { s with heap := zs5 s.heap x y t u }) :=
  .of_wp fun prog w A R s h => by
    obtain ⟨hp, g, d, tk, os⟩ := s
    have hsub := sub_zip
    wp_walk using wpAny_pyIter_strU
    exact ⟨_, rfl, h⟩
section
variable {prog : Program} {w : World} {A : Around} {E : Value → Shared → Prop} {s : Shared} {env : Env} {h₀ : Heap} {L : Addr} {m : Str → Option Value} {news : List (Addr × Obj)}
theorem call_zip_texts {x y : Str} {t u : Tok} {Q : Value → Shared → Prop}
    (h : ∀ h', IsZip h' (s.heap.objs.size + 4) (s.heap.objs.size + 2) (s.heap.objs.size + 3) .none → IsPair h' (s.heap.objs.size + 2) (.ref s.heap.objs.size) (.ref (s.heap.objs.size + 1)) →
      IsPair h' (s.heap.objs.size + 3) .none .none → h'.IsStrIter s.heap.objs.size (strIterType x) x t 0 → h'.IsStrIter (s.heap.objs.size + 1) (strIterType y) y u 0 → h'.objs.size = s.heap.objs.size + 5 →
      (∀ c o, s.heap.get? c = some o → h'.get? c = some o) → Q (.ref (s.heap.objs.size + 4)) { s with heap := h' }) :
    wpAny (model prog w) A (call (.type "zip") [.str x t, .str y u]) Q E s := by
  refine callType_new F.called_zip (by decide) (F.typeCall_zip_2 _ _) (F.newCall_zip_2 _ _) (fun obj => F.args_object_init_3 obj _ _) F.entry_zip_new (meets_zip_texts x y t u) ?_
  have z1 : (zs1 s.heap x t).objs.size = s.heap.objs.size + 1 := Heap.size_push ..
  have z2 : (zs2 s.heap x y t u).objs.size = s.heap.objs.size + 2 := by rw [Heap.size_push, z1]
  have z3 : (zs3 s.heap x y t u).objs.size = s.heap.objs.size + 3 := by rw [Heap.size_push, z2]
  have z4 : (zs4 s.heap x y t u).objs.size = s.heap.objs.size + 4 := by rw [Heap.size_push, z3]
  have z5 : (zs5 s.heap x y t u).objs.size = s.heap.objs.size + 5 := by rw [Heap.size_push, z4]
  have g5 : (zs5 s.heap x y t u).get? (zs4 s.heap x y t u).objs.size = some _ := Heap.get?_push_size _ rfl
  have g4 : (zs5 s.heap x y t u).get? (zs3 s.heap x y t u).objs.size = some _ := Heap.get?_push_of_some _ (Heap.get?_push_size _ rfl)
  have g3 : (zs5 s.heap x y t u).get? (zs2 s.heap x y t u).objs.size = some _ := Heap.get?_push_of_some _ (Heap.get?_push_of_some _ (Heap.get?_push_size _ rfl))
  have g2 : (zs5 s.heap x y t u).get? (zs1 s.heap x t).objs.size = some _ := Heap.get?_push_of_some _ (Heap.get?_push_of_some _ (Heap.get?_push_of_some _ (Heap.get?_push_size _ rfl)))
  have g1 : (zs5 s.heap x y t u).get? s.heap.objs.size = some _ := Heap.get?_push_of_some _ (Heap.get?_push_of_some _ (Heap.get?_push_of_some _ (Heap.get?_push_of_some _ (Heap.get?_push_size _ rfl))))
  show _ ∧ _
  rw [z2, z3, z4] at g5
  rw [z1, z2] at g3
  rw [z3] at g4
  rw [z1] at g2
  rw [z4]
  exact ⟨⟨_, g5, rfl⟩, h _ g5 g3 g4 ⟨_, g1, rfl, rfl⟩ ⟨_, g2, rfl, rfl⟩ z5 fun c o q =>
    Heap.get?_push_of_some _ (Heap.get?_push_of_some _ (Heap.get?_push_of_some _ (Heap.get?_push_of_some _ (Heap.get?_push_of_some _ q))))⟩
end
end
end Mine
theorem Mine.rst_BdZ4 : True ∧ True := by
  w_top off
  (try walk1) <;> trivial
namespace Mine
section
open PySem.Calls PySem.Builtin
theorem draws_text {prog : Program} {w : World} {A : Around} (hh : A.handled = none) (it : Addr) (x : Str) (t : Tok) :
    Draws prog w A it [it] x.cps.size (SignAt x) (fun i h => h.IsStrIter it (strIterType x) x t i) := by
  unfold strIterType
  split
  · exact Draws.strAscii hh it x t
  · exact Draws.strWide hh it x t
section
variable {prog : Program} {w : World} {A : Around} {E : Value → Shared → Prop} {s : Shared} {env : Env} {h₀ : Heap} {L : Addr} {m : Str → Option Value} {news : List (Addr × Obj)}
/-- zip over two texts of one length -/
theorem zip_texts {elt : PySem.Expr} {n₁ n₂ : Str} {scope : Scope} {cl : List (Str × Addr)} {Q : Value → Shared → Prop} {x y : Str} {t u : Tok} (hh : A.handled = none) (F : Fr h₀ L s.heap m) (N : News h₀ L s.heap news)
    (hlen : y.cps.size = x.cps.size) (hsz : x.cps.size ≤ sizeLine) (Fy : Nat → Value → Prop)
    (hel : ∀ i c1 c2 t1 t2 C m₂ h₃ tk₃ (E' : Value → Shared → Prop), x.cps[i]? = some c1 → y.cps[i]? = some c2 → h₃.Ns C m₂ → m₂ n₁ = some (.str ⟨#[c1]⟩ t1) → m₂ n₂ = some (.str ⟨#[c2]⟩ t2) → Fr h₀ L h₃ m → News h₀ L h₃ news →
      wpAny (model prog w) A (eval elt (compEnvC scope cl C env)) (fun y s₄ => Fy i y ∧ ∃ tk, s₄ = { s with heap := h₃, toks := tk }) E' { s with heap := h₃, toks := tk₃ })
    (hfin : ∀ D h' tk zs, Fr h₀ L h' m → News h₀ L h' ((D, LCg.lst zs) :: news) → (∀ p ∈ news, p.1 < D) → zs.length = x.cps.size → (∀ j y, zs[j]? = some y → Fy j y) → Q (.ref D) { s with heap := h', toks := tk }) :
    wpAny (model prog w) A (call (.type "zip") [.str x t, .str y u]) (PairSrc prog w A env elt n₁ n₂ scope cl Q) E s := by
  have kL : @LT.lt Nat _ L s.heap.objs.size := F.ns.lt
  refine call_zip_texts fun h' hz hTI hTO hi1 hi2 hs5 hk => ?_
  generalize hS : s.heap.objs.size = S at *
  have ne : ∀ {a b : Nat}, a ≠ b → a ≠ b := fun q => q
  have Z : Z2 (S + 4) (S + 2) (S + 3) S (S + 1) [S] [S + 1] := by
    constructor <;> first
      | (refine ne ?_; omega)
      | (intro b hb; rw [List.mem_singleton.mp hb]; (refine ne ?_; omega))
  have low : ∀ b o, s.heap.get? b = some o → b ∉ [S + 4, S + 3, S, S + 1] := fun b o e hm => by
    have h9 : @LT.lt Nat _ b S := by rw [← hS]; exact Heap.lt_size e
    simp only [List.mem_cons, List.not_mem_nil, or_false] at hm
    rcases hm with q | q | q | q <;> (have q' : @Eq Nat b _ := q; omega)
  have up : ∀ (h₃ : Heap), (∀ b o, b ∉ [S + 4, S + 3, S, S + 1] → h'.get? b = some o → h₃.get? b = some o) → Fr h₀ L h₃ m ∧ News h₀ L h₃ news := fun h₃ hk₃ =>
    ⟨F.keeps fun b o e => hk₃ b o (low b o e) (hk b o e), N.grown fun b o e => hk₃ b o (low b o e) (hk b o e)⟩
  refine ⟨S + 4, _, _, x.cps.size, _, _, _, Fy, rfl, hh, zipD_walks hh Z (n := x.cps.size) (fun A' hA => draws_text hA S x t) (fun A' hA => hlen ▸ draws_text hA (S + 1) y u), hsz,
    ⟨hz, hTI, ⟨_, _, hTO⟩, hi1, hi2⟩, ?_, ?_, ?_, ?_⟩
  · intro b hb
    show @LT.lt Nat _ b h'.objs.size
    rw [hs5]
    simp only [List.mem_cons, List.mem_append, List.not_mem_nil, or_false] at hb
    rcases hb with q | q | q | q | q | q | q <;> (have q' : @Eq Nat b _ := q; omega)
  · rintro i vals _ ⟨v1, v2, _, _, rfl⟩
    exact ⟨v1, v2, rfl⟩
  · rintro i v1 v2 C m₂ h₃ tk₃ E' _ ⟨a1, a2, ⟨c1, t1, p1, q1⟩, ⟨c2, t2, p2, q2⟩, e⟩ hns hm1 hm2 hk₃
    have e1 : v1 = a1 ∧ v2 = a2 := by simpa using e
    obtain ⟨rfl, rfl⟩ := e1
    subst q1; subst q2
    obtain ⟨F3, N3⟩ := up h₃ hk₃
    exact hel i c1 c2 t1 t2 C m₂ h₃ tk₃ E' p1 p2 hns hm1 hm2 F3 N3
  · intro D h₃ tk zs hD hl hlen3 hF hk₃
    obtain ⟨F3, N3⟩ := up h₃ hk₃
    have hD' : @LE.le Nat _ (S + 5) D := by rw [← hs5]; exact hD
    refine hfin D h₃ tk zs F3 (fun p hp => ?_) (fun p hp => ?_) hlen3 hF
    · rcases List.mem_cons.mp hp with rfl | hp
      · refine ⟨hl, ne (by omega), ?_⟩
        cases q : h₀.get? D with
        | none => rfl
        | some o => exact absurd (Heap.lt_size (F.keep _ _ q)) (by rw [hS]; exact Nat.not_lt.mpr (by omega))
      · exact N3 p hp
    · have h9 : @LT.lt Nat _ p.1 S := by rw [← hS]; exact Heap.lt_size (N p hp).1
      exact Nat.lt_of_lt_of_le h9 (by omega)
end
end
end Mine
theorem Mine.rst_BdZ5 : True ∧ True := by
  w_top off
  (try walk1) <;> trivial
namespace Mine
section
open PySem.Calls PySem.Builtin
theorem ints_at : ∀ (zs : List Value) (cs : List Int), zs.length = cs.length → (∀ (j : Nat) y, zs[j]? = some y → ∃ (c : Int) (t : Tok), cs[j]? = some c ∧ y = Value.int c t) → IntsAre zs cs
  | [], [], _, _ => .nil
  | [], _ :: _, h, _ => by simp at h
  | _ :: _, [], h, _ => by simp at h
  | y :: zs, c :: cs, h, hf => by
    obtain ⟨c', t, e, rfl⟩ := hf 0 y rfl
    simp only [List.getElem?_cons_zero, Option.some.injEq] at e
    subst e
    exact .cons _ _ (ints_at zs cs (by simpa using h) fun j z hj => hf (j + 1) z (by simpa using hj))
section
variable {M : Model} {prog : Program} {w : World} {A : Around} {E : Value → Shared → Prop} {s : Shared} {env : Env} {h₀ : Heap} {L : Addr} {m : Str → Option Value} {news : List (Addr × Obj)}
theorem name_ns {scope : Scope} {cl : List (Str × Addr)} {C : Addr} {m₂ : Str → Option Value} {x : Str} {pos : Pos} {v : Value} {Q : Value → Shared → Prop} (hns : s.heap.Ns C m₂) (hv : m₂ x = some v) (h : Q v s)
    (hk : (compEnvC scope cl C env).scope.kind = .function := by rfl) (hx : (compEnvC scope cl C env).kindOf x = some .local := by rfl) (hd : (x == ("__debug__" : Str)) = false := by decide) :
    wpAny M A (eval (.Name x pos) (compEnvC scope cl C env)) Q E s := wpAny_Name (wpAny_loadName_local hk hx hns hv h) hd
theorem zip_ints {elt : PySem.Expr} {x x₂ : Str} {scope : Scope} {cl : List (Str × Addr)} {Q : Value → Shared → Prop} {l1 l2 : Addr} {xs ys : List Value} {as bs : List Int} (g : Int → Int → Int) (hh : A.handled = none) (F : Fr h₀ L s.heap m) (N : News h₀ L s.heap news)
    (hl1 : s.heap.IsList l1 xs.toArray) (i1 : IntsAre xs as) (hl2 : s.heap.IsList l2 ys.toArray) (i2 : IntsAre ys bs) (hlen : as.length = bs.length) (hsz : as.length ≤ 1000)
    (hel : ∀ (a b : Int) ta tb C m₂ h₃ tk₃ (E' : Value → Shared → Prop), a ∈ as → b ∈ bs → h₃.Ns C m₂ → m₂ x = some (.int a ta) → m₂ x₂ = some (.int b tb) → Fr h₀ L h₃ m → News h₀ L h₃ news →
      wpAny (model prog w) A (eval elt (compEnvC scope cl C env)) (fun y s₄ => (∃ t, y = .int (g a b) t) ∧ ∃ tk, s₄ = { s with heap := h₃, toks := tk }) E' { s with heap := h₃, toks := tk₃ })
    (hfin : ∀ D h' tk zs, Fr h₀ L h' m → News h₀ L h' ((D, LCg.lst zs) :: news) → (∀ p ∈ news, p.1 < D) → IntsAre zs (List.zipWith g as bs) → Q (.ref D) { s with heap := h', toks := tk }) :
    wpAny (model prog w) A (call (.type "zip") [.ref l1, .ref l2]) (PairSrc prog w A env elt x x₂ scope cl Q) E s := by
  have e1 := i1.length
  have e2 := i2.length
  refine zip_lists hh F N hl1 hl2 (by omega) (by rw [PySem.sizeLine_eq]; omega) (fun i y => ∃ a b t, as[i]? = some a ∧ bs[i]? = some b ∧ y = .int (g a b) t) ?_ ?_
  · intro i v1 v2 C m₂ h₃ tk₃ E' hv1 hv2 hns hm1 hm2 F3 N3
    have b1 : i < as.length := by rw [← e1]; exact (List.getElem?_eq_some_iff.mp hv1).1
    have b2 : i < bs.length := by rw [← e2]; exact (List.getElem?_eq_some_iff.mp hv2).1
    obtain ⟨ta, p1⟩ := i1.get i as[i] (List.getElem?_eq_getElem b1)
    obtain ⟨tb, p2⟩ := i2.get i bs[i] (List.getElem?_eq_getElem b2)
    rw [p1] at hv1; rw [p2] at hv2
    cases hv1; cases hv2
    refine wpAny_mono (hel _ _ ta tb C m₂ h₃ tk₃ E' (List.getElem_mem b1) (List.getElem_mem b2) hns hm1 hm2 F3 N3) (fun y s₄ hq => ?_) fun _ _ e => e
    obtain ⟨⟨t, hy⟩, hs⟩ := hq
    exact ⟨⟨_, _, t, List.getElem?_eq_getElem b1, List.getElem?_eq_getElem b2, hy⟩, hs⟩
  · intro D h' tk zs F3 N3 hD hl hF
    refine hfin D h' tk zs F3 N3 hD (ints_at _ _ (by rw [List.length_zipWith]; omega) fun j y hj => ?_)
    obtain ⟨a, b, t, p1, p2, hy⟩ := hF j y hj
    exact ⟨g a b, t, by rw [List.getElem?_zipWith, p1, p2], hy⟩
end
end
end Mine
theorem Mine.rst_BdZ6 : True ∧ True := by
  w_top off
  (try walk1) <;> trivial
namespace Mine
section
set_option maxHeartbeats 2000000
def genL : List Int := [9, 12, 6, 10, 14, 15, 23, 30]
/-- the row divided by x, as the text's _law_lower reckons it -/
def lowI (rs : List Int) : List Int :=
  if rs.getD 0 0 = 0 then List.drop 1 rs ++ [0]
  else List.zipWith Builtin.bitXor (List.drop 1 rs) (List.drop 1 (genL.map fun k => powL.getD (((logL.getD (rs.getD 0 0).toNat 0 - logL.getD 9 0).fmod 31 + logL.getD k.toNat 0).fmod 31).toNat 0)) ++
    [powL.getD ((logL.getD (rs.getD 0 0).toNat 0 - logL.getD 9 0).fmod 31).toNat 0]
theorem gen_bnd : ∀ k ∈ genL, 0 ≤ k ∧ k < 32 := by decide
theorem low_zero {rs : List Int} (h : rs.getD (Int.toNat 0) 0 = 0) : List.drop 1 rs ++ [0] = lowI rs := by
  have h' : rs.getD 0 0 = 0 := h
  unfold lowI; rw [if_pos h']
theorem low_more {rs : List Int} (h : rs.getD (Int.toNat 0) 0 ≠ 0) : List.zipWith Builtin.bitXor (List.drop 1 rs) (List.drop 1 (List.map (fun k' => if 0 ≤ k' ∧ k' < 32 then powL.getD (((logL.getD (rs.getD 0 0).toNat 0 - logL.getD 9 0).fmod 31 + logL.getD k'.toNat 0).fmod 31).toNat 0 else k') genL)) ++
    [powL.getD ((logL.getD (rs.getD (Int.toNat 0) 0).toNat 0 - logL.getD (Int.toNat 9) 0).fmod 31).toNat 0] = lowI rs := by
  have h' : rs.getD 0 0 ≠ 0 := h
  unfold lowI; rw [if_neg h']
  have e : List.map (fun k' => if 0 ≤ k' ∧ k' < 32 then powL.getD (((logL.getD (rs.getD 0 0).toNat 0 - logL.getD 9 0).fmod 31 + logL.getD k'.toNat 0).fmod 31).toNat 0 else k') genL =
      genL.map fun k => powL.getD (((logL.getD (rs.getD 0 0).toNat 0 - logL.getD 9 0).fmod 31 + logL.getD k.toNat 0).fmod 31).toNat 0 :=
    List.map_congr_left fun k hk => if_pos (gen_bnd k hk)
  rw [e]; rfl
/-- a list of the ints rs stands among the made objects -/
def ListR (rs : List Int) (r : Value) (tl : List (Addr × Obj)) : Prop := ∃ (a : Addr) (vs : List Value) (n : Nat), r = .ref a ∧ (a, W.listOf vs.toArray n) ∈ tl ∧ IntsAre vs rs
local macro_rules | `(tactic| walk_at "exec Assign cons ListComp") => `(tactic| (k_here; k_dflt (refine LCg.Assign_ListComp_U (F₀ := by k_asm) (by rfl) (by with_unfolding_all rfl) (by with_unfolding_all rfl) (by decide) (by rfl) (by decide) (by rfl) (by rfl) (by rfl) ?_)))
local macro_rules | `(tactic| walk_at "call ref") => `(tactic| (k_here; (with_reducible show wpAny _ _ (call (Value.ref 65) _) _ _ _); (refine wpAny_call ?_); k_dflt (refine' code_def ?k1 ?k2 ?k3 ?k4 ?k5 ?kA ?kF ?kK ?k6 ?k7 ?k8 ?k9 ?kB ?_ ?c2 ?c3 ?c4 ?c5; (case kA => exact rfl); (case kF => exact rfl); (case kK => first | exact rfl | assumption); (case k1 => k_asm); (case k2 => k_asm); (case k3 => k_asm); (case k4 => k_asm); (case k5 => k_asm); (case k6 => k_is); (case k7 => k_is); (case k8 => ktr_room); (case k9 => exact BindsTo.of_eq rfl); (case c5 => decide); (case kB => exact locs rfl); (case c2 => exact rfl); (case c3 => exact rfl); (case c4 => exact rfl); k_whole; intro g' L' h' FG' F' N' B' X' T'; (try dsimp only); (try k_lift B'); (try k_fold))))
theorem genL_len : genL.length = 8 := rfl
local macro_rules | `(tactic| walk_at "CompSrc") => `(tactic| (k_here; k_dflt (refine LCg.CompSrc.ledger (by rfl) (by k_asm) (by k_asm) (by k_mem) (by kcf_size) ?_; intro g'; (refine' kcf_list (ns := genL) _ (by exact .cons _ _ (.cons _ _ (.cons _ _ (.cons _ _ (.cons _ _ (.cons _ _ (.cons _ _ (.cons _ _ .nil)))))))) (fun k' t' I' oI' C' oC' D' m' ys' h' tk' E' hk' hC' hx' F' N' off' ne' hMark' => ?_) ?_); (all_goals (try (simp only [LCg.Off3, and_true] at off'))); (all_goals (try (have hkb := gen_bnd _ hk'; obtain ⟨hkb1, hkb2⟩ := hkb))); kcf_last)))
theorem item_pow {prog : Program} {w : World} {A : Around} {E : Value → Shared → Prop} {s : Shared} {value slice : PySem.Expr} {l : Addr} {vs : List Value} {y : Int} {u : Tok} {Q : Value → Shared → Prop} (hl : s.heap.IsList l vs.toArray) (hi : IntsAre vs powL)
    (h : ∀ t, Q (.int (powL.getD (Int.fmod y 31).toNat 0) t) s)
    (hs : subscripted slice false (.ref l) (.int (Int.fmod y 31) u) = operate [.ref l, .int (Int.fmod y 31) u] (getItem (.ref l) (.int (Int.fmod y 31) u)) := by with_unfolding_all rfl) :
    wpAny (model prog w) A (subscriptTail value slice (.ref l) (.int (Int.fmod y 31) u)) Q E s := by
  have h1 := fmod_hi y (n := 31) (by decide)
  exact item_anyK hl hi (fmod_lo y (by decide)) (by rw [powL_len]; exact h1) (by omega) h hs
local macro_rules | `(tactic| walk_at "subscriptTail") => `(tactic| ((with_reducible show wpAny _ _ (subscriptTail _ _ (Value.ref _) (Value.int (Int.fmod _ 31) _)) _ _ _); (refine item_pow (by is_list) (by assumption) ?_); intro _))
local macro_rules | `(tactic| walk_at "eval ListComp") => `(tactic| (k_here; k_dflt (refine ListComp_Z (by with_unfolding_all rfl) (by decide) (by rfl) (by decide) (by rfl) (by rfl) (by decide) ?_)))
local macro_rules | `(tactic| walk_at "eval Name") => `(tactic| (refine name_ns (by assumption) (by assumption) ?_))
local macro_rules | `(tactic| walk_at "call type:zip") => `(tactic| (k_here; with_unfolding_all (refine zip_ints Builtin.bitXor (by rfl) (by k_asm) (by k_asm) (by is_list) (by assumption) (by is_list) (by assumption) ?kl ?ks (fun a' b' ta' tb' C' m' h' tk' E' ha' hb' hns' hm1' hm2' F' N' => ?ke) (fun D' h' tk' zs' F' N' hD' hz' => ?kf); (case kl => (simp only [List.length_drop, List.length_map, genL_len]; omega)); (case ks => (simp only [List.length_drop]; omega)))))
local macro_rules | `(tactic| kmk_sum) => `(tactic| (simp only [List.length_zipWith, List.length_drop, List.length_map, List.length_cons, List.length_nil, PySem.sizeLine_eq, genL_len]; omega))
theorem lower_con {w : World} {mg mb : Str → Option Value} {mean : ExcName → Option Value} {news : List (Addr × Obj)} {fa lp ll ra : Addr} {vp vl : List Value} {np nl : Nat} {rs : List Int} {vr : List Value} {nr : Nat}
    (m1 : (fa, ({ cls := .type "tuple", data := .seq #[.ref lp, .ref ll] } : Obj)) ∈ news) (m2 : (ll, W.listOf vl.toArray nl) ∈ news) (m3 : (lp, W.listOf vp.toArray np) ∈ news) (m4 : (ra, W.listOf vr.toArray nr) ∈ news)
    (iP : IntsAre vp powL) (iL : IntsAre vl logL) (iR : IntsAre vr rs) (hr8 : rs.length = 8) (hrb : ∀ x ∈ rs, 0 ≤ x ∧ x < 32) :
    Con w mg mb mean 77 [.ref fa, .ref ra] 4 news (ListR (lowI rs)) := by
  unfold Con
  k_fill
  intro dp un gd cn cs a ccd cl outer A₀ base h₀ L m s Q E B F X N T hk hd hu hret
  refine wpAny_call ?_
  k_dflt (refine' code_defC ?k1 ?k2 ?k3 ?k4 ?k5 ?kA ?kF ?kK ?k6 ?k7 ?k8 ?k9 ?kB ?kD ?_ ?c2 ?c3 ?c4; (case kA => exact rfl); (case kF => exact rfl); (case kK => assumption); (case k1 => k_asm); (case k2 => k_asm); (case k3 => k_asm); (case k4 => k_asm); (case k5 => k_asm); (case k6 => k_is); (case k7 => k_is); (case k8 => ktr_room); (case k9 => exact BindsTo.of_eq rfl); (case kB => exact rfl); (case kD => decide +kernel); (case c2 => exact rfl); (case c3 => exact rfl); (case c4 => exact rfl); k_whole; intro g' L' h' tk' cells' FG' F' N' Y' B' X' T' l1; k_cells Y')
  refine rebase_goal (rebase_keeps F') (rebase_size F') ?_
  have hold := rebase_old N' l1
  replace N' := rebase_news N' (by intro p hp; simp only [List.mem_cons, List.not_mem_nil, or_false] at hp; rcases hp with rfl | rfl <;> (dsimp only; omega))
  replace B' := rebase_below F' B'
  replace X' := X'.keeps (rebase_keeps F')
  replace T' := T'.keeps (rebase_keeps F')
  replace FG' := rebase_outer F' FG'
  replace F' := rebase_fr F'
  generalize cut h' L' = g2 at hold N' B' X' T' FG' F' ⊢
  clear l1 g'
  have hT : IsTup g2 fa #[.ref lp, .ref ll] := ⟨_, hold _ m1, rfl, _, rfl⟩
  have hLl : g2.IsList ll vl.toArray := ⟨_, hold _ m2, rfl, _, rfl⟩
  have hLp : g2.IsList lp vp.toArray := ⟨_, hold _ m3, rfl, _, rfl⟩
  have hLr : g2.IsList ra vr.toArray := ⟨_, hold _ m4, rfl, _, rfl⟩
  have hb0 : 0 ≤ rs.getD (Int.toNat 0) 0 ∧ rs.getD (Int.toNat 0) 0 < 32 := by
    have h8 : 0 < rs.length := by omega
    have e : rs.getD (Int.toNat 0) 0 = rs[0] := by rw [List.getD_eq_getElem?_getD, show Int.toNat 0 = 0 from rfl, List.getElem?_eq_getElem h8]; rfl
    rw [e]; exact hrb _ (List.getElem_mem h8)
  have hb1 := hb0.1
  have hb2 := hb0.2
  have hLL : logL.length = 32 := rfl
  have hPL : powL.length = 31 := rfl
  dsimp only
  try k_fold
  k_steps
  all_goals (
    (rename Fr h₀ L _ m => kF)
    (rename News h₀ L _ _ => kN)
    (rename Fr g2 L' _ _ => F8)
    (rename News g2 L' _ _ => N8)
    obtain ⟨hN, hne⟩ := rebase_end F8 N8 kN N hold
    refine hret _ _ _ _ kF hN hne ?_)
  · (rename IntsAre _ (List.drop 1 rs ++ [0]) => hI)
    rw [low_zero (by assumption)] at hI
    exact ⟨_, _, _, rfl, .head _, hI⟩
  · (rename IntsAre _ (_ ++ [_]) => hI)
    rw [low_more (by assumption)] at hI
    exact ⟨_, _, _, rfl, .head _, hI⟩
end
end Mine
theorem Mine.rst_Bd5 : True ∧ True := by
  w_top off
  (try walk1) <;> trivial
namespace Mine
section
open PySem.Calls PySem.Builtin
theorem digs_lt (n : Nat) : ∀ d ∈ digs n, d < 32 := by
  intro d hd
  unfold digs at hd
  obtain ⟨j, _, rfl⟩ := List.mem_map.mp hd
  unfold dig
  have : (n / 2 ^ (5 * (7 - j))) &&& 31 ≤ 31 := Nat.and_le_right
  omega
theorem digs_len (n : Nat) : (digs n).length = 8 := rfl
def rowX (a b : Nat) : List Int := List.zipWith (fun (x y : Nat) => Builtin.bitXor (x : Int) (y : Int)) (digs a) (digs b)
section
variable {prog : Program} {w : World} {A : Around} {E : Value → Shared → Prop} {s : Shared} {env : Env} {h₀ : Heap} {L : Addr} {m : Str → Option Value} {news : List (Addr × Obj)}
theorem name_gl {M : Model} {K : Frag} {p : Program} {loose : List Str} {mean : ExcName → Option Value} {mg mb : Str → Option Value} {scope : Scope} {cl : List (Str × Addr)} {C : Addr} {x : Str} {pos : Pos} {v : Value} {Q : Value → Shared → Prop} (F : Fr h₀ L s.heap m) (X : K.In h₀) (T : Top p loose mean mg mb h₀)
    (e : nsIn K mainGlobals x = some (some v)) (h : Q v s) (hg : (compEnvC scope cl C env).globals = mainGlobals := by rfl)
    (hk : (compEnvC scope cl C env).scope.kind = .function := by rfl) (hx : (compEnvC scope cl C env).kindOf x = some .globalImplicit := by rfl) (hd : (x == ("__debug__" : Str)) = false := by decide) :
    wpAny M A (eval (.Name x pos) (compEnvC scope cl C env)) Q E s :=
  Name_function_global hk hx (loadGlobal_global (env := compEnvC scope cl C env) (hg ▸ T.g.keeps F.keep) (mg_of X T.g e) h) hd
theorem find_ks_step {x : Str} {t u : Tok} {Q : Value → Shared → Prop} {p : Nat} (hx : x = ks) (hp : p < 32) (h : ∀ t' k, Q (.int (p : Int) t') { s with toks := k }) :
    wpAny (model prog w) A (call (.builtin "str.find") [.str x t, .str ⟨#[sgK p]⟩ u]) Q E s := by
  subst hx
  exact SC.find (by rw [find_ks p hp]; exact h _ _)
theorem zip_chk {elt : PySem.Expr} {n₁ n₂ : Str} {scope : Scope} {cl : List (Str × Addr)} {Q : Value → Shared → Prop} {a b : Nat} {t u : Tok} (hh : A.handled = none) (F : Fr h₀ L s.heap m) (N : News h₀ L s.heap news)
    (hel : ∀ (d1 d2 : Nat) t1 t2 C m₂ h₃ tk₃ (E' : Value → Shared → Prop), d1 < 32 → d2 < 32 → h₃.Ns C m₂ → m₂ n₁ = some (.str ⟨#[sgK d1]⟩ t1) → m₂ n₂ = some (.str ⟨#[sgK d2]⟩ t2) → Fr h₀ L h₃ m → News h₀ L h₃ news →
      wpAny (model prog w) A (eval elt (compEnvC scope cl C env)) (fun y s₄ => (∃ t, y = .int (Builtin.bitXor (d1 : Int) (d2 : Int)) t) ∧ ∃ tk, s₄ = { s with heap := h₃, toks := tk }) E' { s with heap := h₃, toks := tk₃ })
    (hfin : ∀ D h' tk zs, Fr h₀ L h' m → News h₀ L h' ((D, LCg.lst zs) :: news) → (∀ p ∈ news, p.1 < D) → IntsAre zs (rowX a b) → Q (.ref D) { s with heap := h', toks := tk }) :
    wpAny (model prog w) A (call (.type "zip") [.str (mkK (digs a)) t, .str (mkK (digs b)) u]) (PairSrc prog w A env elt n₁ n₂ scope cl Q) E s := by
  have la : (mkK (digs a)).cps.size = 8 := by simp [mkK, digs_len]
  have lb : (mkK (digs b)).cps.size = 8 := by simp [mkK, digs_len]
  have at_ : ∀ (n i c : Nat), (mkK (digs n)).cps[i]? = some c → ∃ d, (digs n)[i]? = some d ∧ c = sgK d := by
    intro n i c h
    have h' : ((digs n).map sgK)[i]? = some c := by simpa [mkK] using h
    rw [List.getElem?_map] at h'
    obtain ⟨d, hd, e⟩ := Option.map_eq_some_iff.mp h'
    exact ⟨d, hd, e.symm⟩
  refine zip_texts hh F N (by rw [la, lb]) (by rw [la, PySem.sizeLine_eq]; omega) (fun i y => ∃ d1 d2 t, (digs a)[i]? = some d1 ∧ (digs b)[i]? = some d2 ∧ y = Value.int (Builtin.bitXor ((d1 : Nat) : Int) ((d2 : Nat) : Int)) t) ?_ ?_
  · intro i c1 c2 t1 t2 C m₂ h₃ tk₃ E' hc1 hc2 hns hm1 hm2 F3 N3
    obtain ⟨d1, e1, rfl⟩ := at_ a i c1 hc1
    obtain ⟨d2, e2, rfl⟩ := at_ b i c2 hc2
    refine wpAny_mono (hel d1 d2 t1 t2 C m₂ h₃ tk₃ E' (digs_lt a d1 (List.mem_of_getElem? e1)) (digs_lt b d2 (List.mem_of_getElem? e2)) hns hm1 hm2 F3 N3) (fun y s₄ hq => ?_) fun _ _ e => e
    obtain ⟨⟨t, hy⟩, hs⟩ := hq
    exact ⟨⟨d1, d2, t, e1, e2, hy⟩, hs⟩
  · intro D h' tk zs F3 N3 hD hl hF
    refine hfin D h' tk zs F3 N3 hD (ints_at _ _ (by rw [hl, la]; unfold rowX; rw [List.length_zipWith]; rfl) fun j y hj => ?_)
    obtain ⟨d1, d2, t, e1, e2, hy⟩ := hF j y hj
    exact ⟨_, t, by unfold rowX; rw [List.getElem?_zipWith, e1, e2], hy⟩
end
end
end Mine
theorem Mine.rst_BdZ7 : True ∧ True := by
  w_top off
  (try walk1) <;> trivial
namespace Mine
section
set_option maxHeartbeats 2000000
/-! the law's own statements and scope, read off the given program -/
def fnBody : Stmt → List Stmt
  | .FunctionDef _ _ b _ _ _ _ _ _ _ => b
  | _ => []
def fnScope : Stmt → Scope
  | .FunctionDef _ _ _ _ _ _ s _ _ _ => s
  | _ => { kind := .function, names := [], isGenerator := false, isCoroutine := false }
def lawFn : Stmt := PySem.Challenge.pw_bd0006_01.main.body.getD 13 default
def lawBody : List Stmt := fnBody lawFn
def lawScope : Scope := fnScope lawFn
def lawSt (i : Nat) : Stmt := lawBody.getD i default
abbrev lawCl (L : Addr) : List (Str × Addr) := cellsFrom (L + 1) lawScope.names []
abbrev lawEnv (L fa : Addr) (cd : Value) : Env := envX (Str.ofString "law") lawScope L fa cd (lawCl L)
abbrev lawA (dp un : Nat) (gd : Option (List Code)) (L fa : Addr) (cd : Value) (outer : List Env) : Around := ktrTop dp un gd (Str.ofString "law") lawScope L fa cd (lawCl L) outer
local macro_rules | `(tactic| walk_at "binaryOp Add ref ref") => `(tactic| (k_here; k_dflt (refine' kmk_add_ints ?F ?N ?a ?b ?i ?j ?_ ?z; (case F => k_asm); (case N => k_asm); (case a => exact News.isList (by k_asm) (by k_mem)); (case b => exact News.isList (by k_asm) (by k_mem)); (case i => with_reducible assumption); (case j => with_reducible assumption); (case z => (simp only [List.length_drop, List.length_take, List.length_cons, List.length_nil, PySem.sizeLine_eq]; omega))); intro D' ws' h' F' N' l1 hI'; (try k_lt l1)))
local macro_rules | `(tactic| walk_at "subscriptTail Name Slice ref ref") => `(tactic| (k_here; (with_reducible show wpAny _ _ (subscriptTail _ (PySem.Expr.Slice (some _) none none _) (Value.ref _) (Value.ref _)) _ _ _); k_dflt (refine' kmk_slice_ints ?F ?N ?l ?p ?q ?i ?m ?c ?_ ?s ?t ?z; (case F => k_asm); (case N => k_asm); (case l => kmk_list); (case p => exact IsPart.int _ _); (case q => exact IsPart.none); (case i => l_ints); (case m => exact kmk_from (by l_ints) (by kmk_sign)); (case c => exact List.length_drop ..); (case s => with_unfolding_all rfl); (case t => kmk_pure); (case z => kmk_size)); intro D' ws' h' F' N' l1 hI' hC' hL'; (try simp only [Int.reduceNeg, Int.neg_neg, Int.reduceToNat] at hI' hC' hL'); (try k_lt l1)))
local macro_rules | `(tactic| kmk_sum) => `(tactic| (simp only [List.length_drop, List.length_take, List.length_cons, List.length_nil, PySem.sizeLine_eq]; omega))
theorem stage1 {w : World} {mg mb : Str → Option Value} {mean : ExcName → Option Value} {dp un : Nat} {gd : Option (List Code)} {L fa : Addr} {cd : Value} {outer : List Env} {A₀ : Around} {base h₀ : Heap} {u : Str → Option Value} {s : Shared} {Q : Flow → Shared → Prop} {E : Value → Shared → Prop} {rest : List Stmt}
    {o1 o2 o3 : Obj} {ax : Addr} {vs : List Value} {ns : List Int} {c1 c2 c3 : Option Value}
    (B : Below A₀ base outer h₀) (F : Fr h₀ L s.heap (kstB u [(Str.ofString "script", .ref ax)])) (X : (hd_bd.heap_39 w.params).In h₀) (N : News h₀ L s.heap [(L + 1 + 1 + 1, o3), (L + 1 + 1, o2), (L + 1, o1)]) (T : Top hd_bd.view_39 (looseW hd_bd.view_39 []) mean mg mb h₀)
    (d1 : o1.data = .cell c1) (d2 : o2.data = .cell c2) (d3 : o3.data = .cell c3) (hl : h₀.IsList ax vs.toArray) (hi : IntsAre vs ns) (h63 : ns.length ≤ 63)
    (hd : dp + 10 < recursionLimit) (hu : un + 80 < cLine)
    (h : ∀ (u : Str → Option Value) (D : Addr) (ws : List Value) (h' : Heap) (tk : Nat), Fr h₀ L h' (kstB u [(Str.ofString "cells", .ref D)]) → News h₀ L h' [(D, W.listOf ws.toArray 0), (L + 1 + 1 + 1, o3), (L + 1 + 1, o2), (L + 1, o1)] → @LT.lt Nat _ (L + 1 + 1 + 1) D →
      IntsAre ws (ns.take 16 ++ ([5, 33, 8, 70, 91, 12] : List Int).drop (ns.take 16).length) → wpAny (model Challenge.rw_bd0006_01.row.prog w) (lawA dp un gd L fa cd outer) (execs rest (lawEnv L fa cd)) Q E { s with heap := h', toks := tk }) :
    wpAny (model Challenge.rw_bd0006_01.row.prog w) (lawA dp un gd L fa cd outer) (execs (lawSt 0 :: lawSt 1 :: rest) (lawEnv L fa cd)) Q E s := by
  have hk : (hd_bd.heap_39 w.params).In h₀ → True := fun _ => trivial
  revert hk
  k_fill
  intro _
  conv in lawSt 0 => whnf
  conv in lawSt 1 => whnf
  repeat' ((fail_if_success (with_reducible show wpAny _ _ (execs rest _) _ _ _)); (first | (k_unfold; (try dsimp only)) | walk1 | (dsimp only; walk1)))
  (rename Fr h₀ L _ _ => fE)
  (rename News h₀ L _ _ => nE)
  (rename IntsAre _ (_ ++ _) => iE)
  rename_i lE _
  obtain ⟨_, _, _, _, lE, _⟩ := lE
  rw [Int.toNat_natCast] at iE
  refine h _ _ _ _ _ (fr_kst [(Str.ofString "cells", .ref _)] (by kst_all) fE) (fun p hp => nE p (by revert p; exact List.forall_mem_cons.mpr ⟨.head _, fun p hp => .tail _ (.tail _ (.tail _ (.tail _ (.tail _ hp))))⟩)) (by omega) iE
end
end Mine
theorem Mine.rst_BdS : True ∧ True := by
  w_top off
  (try walk1) <;> trivial
namespace Mine
section
set_option maxHeartbeats 2000000
/-- the place of the sign that the law takes for a cell -/
def cellP (k : Int) : Nat := if (k.fmod 95).toNat = 91 then 18 else (k.fmod 95).toNat
def cellT (k : Int) : Str := if ((⟨#[csL.getD (k.fmod 95).toNat 0]⟩ : Str) == Str.ofString "#") = true then Str.ofString "a" else ⟨#[csL.getD (k.fmod 95).toNat 0]⟩
theorem fmod95 (k : Int) : (k.fmod 95).toNat < 95 := by
  have h1 := fmod_lo k (n := 95) (by decide)
  have h2 := fmod_hi k (n := 95) (by decide)
  omega
theorem sign_hash : ∀ p < 95, ((⟨#[csL.getD p 0]⟩ : Str) == Str.ofString "#") = decide (p = 91) := by decide +kernel
theorem cellT_eq (k : Int) : cellT k = ⟨#[sg (cellP k)]⟩ := by
  unfold cellT cellP
  rw [sign_hash _ (fmod95 k)]
  by_cases h : (k.fmod 95).toNat = 91
  · rw [if_pos (decide_eq_true h), if_pos h]; decide +kernel
  · rw [if_neg (by rw [decide_eq_false h]; decide), if_neg h]; rfl
theorem cellT_len (k : Int) : (cellT k).length = 1 := by rw [cellT_eq]; rfl
theorem cellP_ok (k : Int) : cellP k < 95 ∧ cellP k ≠ 91 := by
  have := fmod95 k
  unfold cellP
  split <;> omega
theorem text_join (xs : List Int) : Txt.join (Str.ofString "") (xs.map cellT) = mkT (xs.map cellP) := by
  have e : xs.map cellT = ((xs.map cellP).map sg).map fun c => (⟨#[c]⟩ : Str) := by
    rw [List.map_map, List.map_map]
    exact List.map_congr_left fun k _ => cellT_eq k
  rw [e, join_singles]; rfl
theorem kct_pos {news : List (Addr × Obj)} {k : Int} {t : Tok} (h : ((⟨#[csL.getD (k.fmod 95).toNat 0]⟩ : Str) == Str.ofString "#") = true) : KCtEl news (cellT k) (.str (Str.ofString "a") t) news :=
  kct_el (by unfold cellT; rw [if_pos h]) rfl rfl
theorem kct_neg {news : List (Addr × Obj)} {k : Int} {t : Tok} (h : ¬ ((⟨#[csL.getD (k.fmod 95).toNat 0]⟩ : Str) == Str.ofString "#") = true) : KCtEl news (cellT k) (.str ⟨#[csL.getD (k.fmod 95).toNat 0]⟩ t) news :=
  kct_el (by unfold cellT; rw [if_neg h]) rfl rfl
/-- the sign at an unknown place of the 95 -/
theorem item_cs {prog : Program} {w : World} {A : Around} {E : Value → Shared → Prop} {s : Shared} {value slice : PySem.Expr} {t u : Tok} {i : Int} {Q : Value → Shared → Prop} (h0 : 0 ≤ i) (h1 : i < 95)
    (h : Q (.str ⟨#[csL.getD i.toNat 0]⟩ s.toks) { s with toks := s.toks + 1 })
    (hs : subscripted slice false (.str (Str.ofString "0123456789()[],'/*abcdefgh@:$%{}IJKLMNOPQRSTUVWXYZ&+-.;<=>?!^_|~ijklmnopqrstuvwxyzABCDEFGH`#\"\\ ") t) (.int i u) = operate [.str (Str.ofString "0123456789()[],'/*abcdefgh@:$%{}IJKLMNOPQRSTUVWXYZ&+-.;<=>?!^_|~ijklmnopqrstuvwxyzABCDEFGH`#\"\\ ") t, .int i u] (getItem (.str (Str.ofString "0123456789()[],'/*abcdefgh@:$%{}IJKLMNOPQRSTUVWXYZ&+-.;<=>?!^_|~ijklmnopqrstuvwxyzABCDEFGH`#\"\\ ") t) (.int i u)) := by with_unfolding_all rfl)
    (ht : ∀ r, letTemporaryGo value (.str (Str.ofString "0123456789()[],'/*abcdefgh@:$%{}IJKLMNOPQRSTUVWXYZ&+-.;<=>?!^_|~ijklmnopqrstuvwxyzABCDEFGH`#\"\\ ") t) r = pure () := by intro _; with_unfolding_all rfl) :
    wpAny (model prog w) A (subscriptTail value slice (.str (Str.ofString "0123456789()[],'/*abcdefgh@:$%{}IJKLMNOPQRSTUVWXYZ&+-.;<=>?!^_|~ijklmnopqrstuvwxyzABCDEFGH`#\"\\ ") t) (.int i u)) Q E s :=
  item_tab (l := csL) cs_eq h0 (by rw [show (csL.length : Int) = 95 from rfl]; exact h1) (by decide) h hs ht
local macro_rules | `(tactic| walk_at "subscriptTail Name BinOp str int") => `(tactic| ((with_reducible show wpAny _ _ (subscriptTail _ _ (Value.str (Str.ofString _) _) (Value.int (Int.fmod _ 95) _)) _ _ _); refine item_cs (fmod_lo _ (by decide)) (fmod_hi _ (by decide)) ?_))
local macro_rules | `(tactic| walk_at "subscriptTail Name Slice ref ref") => `(tactic| (k_here; (with_reducible show wpAny _ _ (subscriptTail _ (PySem.Expr.Slice (some _) (some _) none _) (Value.ref _) (Value.ref _)) _ _ _); k_dflt (refine' kmk_slice_ints ?F ?N ?l ?p ?q ?i ?m ?c ?_ ?s ?t ?z; (case F => k_asm); (case N => k_asm); (case l => kmk_list); (case p => exact IsPart.int _ _); (case q => exact IsPart.int _ _); (case i => with_reducible assumption); (case m => exact kmk_run (by with_reducible assumption) (by decide) (by decide)); (case c => exact rfl); (case s => with_unfolding_all rfl); (case t => kmk_pure); (case z => (refine kmk_sz (by with_reducible assumption) ?_; rw [sizeLine_eq]; omega))); intro D' ws' h' F' N' l1 hI' hC' hL'; (try simp only [Int.reduceNeg, Int.neg_neg, Int.reduceToNat] at hI' hC' hL'); (try k_lt l1)))
local macro_rules | `(tactic| walk_at "CompSrc") => `(tactic| (k_here; k_dflt (refine LCg.CompSrc.ledger (by rfl) (by k_asm) (by k_asm) (by k_mem) (by (refine kmk_sz (by with_reducible assumption) ?_; rw [sizeLine_eq]; omega)) ?_; intro g'; (refine' kct_list cellT (by with_reducible assumption) (fun k' t' I' oI' C' oC' D' m' ys' h' tk' E' hk' hC' hx' F' N' off' ne' => ?_) ?_); (all_goals (try (simp only [LCg.Off3, and_true] at off'))); (all_goals (try ((show KPfMark → _); intro hMark'))); kcf_last)))
local macro_rules | `(tactic| walk_at "KCtEl") => `(tactic| first | exact kct_pos (by assumption) | exact kct_neg (by assumption))
local macro_rules | `(tactic| walk_at "call builtin:str.join") => `(tactic| (k_here; (with_reducible rename CarriedAll _ (List.map _ _) => ktC); refine KT.join_1 (g := cellT) (by first | assumption | is_list | exact News.isList (by k_asm) (by k_mem)) ktC (by intro ktA _; exact cellT_len ktA) (by simp only [List.length_take, List.length_drop]; omega) ?_; intro _ _ ktE))
theorem stage2 {w : World} {mg mb : Str → Option Value} {mean : ExcName → Option Value} {dp un : Nat} {gd : Option (List Code)} {L fa : Addr} {cd : Value} {outer : List Env} {A₀ : Around} {base h₀ : Heap} {u : Str → Option Value} {s : Shared} {Q : Flow → Shared → Prop} {E : Value → Shared → Prop} {rest : List Stmt}
    {o1 o2 o3 : Obj} {D : Addr} {ws : List Value} {xs : List Int} {c1 c2 : Option Value}
    (B : Below A₀ base outer h₀) (F : Fr h₀ L s.heap (kstB u [(Str.ofString "cells", .ref D)])) (X : (hd_bd.heap_39 w.params).In h₀) (N : News h₀ L s.heap [(D, W.listOf ws.toArray 0), (L + 1 + 1 + 1, o3), (L + 1 + 1, o2), (L + 1, o1)]) (T : Top hd_bd.view_39 (looseW hd_bd.view_39 []) mean mg mb h₀)
    (hLD : @LT.lt Nat _ (L + 1 + 1 + 1) D) (d1 : o1.data = .cell c1) (d2 : o2.data = .cell c2) (hi : IntsAre ws xs) (h6 : 6 ≤ xs.length) (h16 : xs.length ≤ 16)
    (hd : dp + 10 < recursionLimit) (hu : un + 80 < cLine)
    (h : ∀ (u : Str → Option Value) (o1 o2 : Obj) (t1 t2 : Tok) (h' : Heap) (tk : Nat), Fr h₀ L h' (kstB u [(Str.ofString "cells", .ref D)]) → News h₀ L h' [(D, W.listOf ws.toArray 0), (L + 1 + 1 + 1, o3), (L + 1 + 1, o2), (L + 1, o1)] →
      o1.data = .cell (some (.str (Str.ofString "0123456789()[],'/*abcdefgh@:$%{}IJKLMNOPQRSTUVWXYZ&+-.;<=>?!^_|~ijklmnopqrstuvwxyzABCDEFGH`#\"\\ ") t1)) → o2.data = .cell (some (.str (mkT ((xs.drop 2).map cellP)) t2)) →
      wpAny (model Challenge.rw_bd0006_01.row.prog w) (lawA dp un gd L fa cd outer) (execs rest (lawEnv L fa cd)) Q E { s with heap := h', toks := tk }) :
    wpAny (model Challenge.rw_bd0006_01.row.prog w) (lawA dp un gd L fa cd outer) (execs (lawSt 2 :: lawSt 3 :: rest) (lawEnv L fa cd)) Q E s := by
  have hk : (hd_bd.heap_39 w.params).In h₀ → True := fun _ => trivial
  revert hk
  k_fill
  intro _
  conv in lawSt 2 => whnf
  conv in lawSt 3 => whnf
  repeat' ((fail_if_success (with_reducible show wpAny _ _ (execs rest _) _ _ _)); (first | (k_unfold; (try dsimp only)) | walk1 | (dsimp only; walk1)))
  (rename Fr h₀ L _ _ => fE)
  (rename News h₀ L _ _ => nE)
  (rename Obj.data _ = Data.cell (some (Value.str (Txt.join _ _) _)) => dT)
  (rename Obj.data _ = Data.cell (some (Value.str (Str.ofString _) _)) => dS)
  have e : List.take (min 16 xs.length - 2) (List.drop 2 xs) = xs.drop 2 := List.take_of_length_le (by rw [List.length_drop]; omega)
  rw [e, text_join] at dT
  exact h _ _ _ _ _ _ _ (fr_kst [(Str.ofString "cells", .ref D)] (by kst_all) fE) (fun p hp => nE p (.tail _ (.tail _ hp))) dS dT
end
end Mine
theorem Mine.rst_BdS2 : True ∧ True := by
  w_top off
  (try walk1) <;> trivial
namespace Mine
section
set_option maxHeartbeats 2000000
abbrev csS : Str := Str.ofString "0123456789()[],'/*abcdefgh@:$%{}IJKLMNOPQRSTUVWXYZ&+-.;<=>?!^_|~ijklmnopqrstuvwxyzABCDEFGH`#\"\\ "
theorem stage3 {w : World} {mg mb : Str → Option Value} {mean : ExcName → Option Value} {dp un : Nat} {gd : Option (List Code)} {L fa : Addr} {cd : Value} {outer : List Env} {A₀ : Around} {base h₀ : Heap} {u : Str → Option Value} {s : Shared} {Q : Flow → Shared → Prop} {E : Value → Shared → Prop} {rest : List Stmt}
    {o1 o2 o3 : Obj} {D : Addr} {ws : List Value} {xs : List Int} {ps : List Nat} {t1 t2 : Tok}
    (B : Below A₀ base outer h₀) (F : Fr h₀ L s.heap (kstB u [(Str.ofString "cells", .ref D)])) (X : (hd_bd.heap_39 w.params).In h₀) (N : News h₀ L s.heap [(D, W.listOf ws.toArray 0), (L + 1 + 1 + 1, o3), (L + 1 + 1, o2), (L + 1, o1)]) (T : Top hd_bd.view_39 (looseW hd_bd.view_39 []) mean mg mb h₀)
    (d2 : o2.data = .cell (some (.str (mkT ps) t2))) (hi : IntsAre ws xs) (h6 : 6 ≤ xs.length) (h4 : 4 ≤ ps.length) (h14 : ps.length ≤ 14)
    (h : ∀ (u : Str → Option Value) (i : Nat) (t : Tok) (h' : Heap) (tk : Nat), i < ps.length → Fr h₀ L h' (kstB u [(Str.ofString "cells", .ref D), (Str.ofString "place", .int (i : Int) t)]) → News h₀ L h' [(D, W.listOf ws.toArray 0), (L + 1 + 1 + 1, o3), (L + 1 + 1, o2), (L + 1, o1)] →
      wpAny (model Challenge.rw_bd0006_01.row.prog w) (lawA dp un gd L fa cd outer) (execs rest (lawEnv L fa cd)) Q E { s with heap := h', toks := tk }) :
    wpAny (model Challenge.rw_bd0006_01.row.prog w) (lawA dp un gd L fa cd outer) (execs (lawSt 4 :: rest) (lawEnv L fa cd)) Q E s := by
  have hk : (hd_bd.heap_39 w.params).In h₀ → True := fun _ => trivial
  revert hk
  k_fill
  intro _
  have hlen : (mkT ps).length = ps.length := mkT_length ps
  have hxl : 0 < xs.length := by omega
  conv in lawSt 4 => whnf
  repeat' ((fail_if_success (with_reducible show wpAny _ _ (execs rest _) _ _ _)); (first | (k_unfold; (try dsimp only)) | walk1 | (dsimp only; walk1)))
  (rename Fr h₀ L _ _ => fE)
  (rename News h₀ L _ _ => nE)
  generalize xs.getD _ _ = x at fE
  rw [hlen] at fE
  have hlo := fmod_lo x (n := (ps.length : Int)) (by omega)
  have hhi := fmod_hi x (n := (ps.length : Int)) (by omega)
  rw [show x.fmod (ps.length : Int) = (((x.fmod (ps.length : Int)).toNat : Nat) : Int) from (Int.toNat_of_nonneg hlo).symm] at fE
  exact h _ (x.fmod (ps.length : Int)).toNat _ _ _ (by omega) (fr_kst [(Str.ofString "cells", .ref D), (Str.ofString "place", .int _ _)] (by kst_all) fE) nE
end
end Mine
theorem Mine.rst_BdS3 : True ∧ True := by
  w_top off
  (try walk1) <;> trivial
namespace Mine
section
set_option maxHeartbeats 2000000
theorem item_txt {prog : Program} {w : World} {A : Around} {E : Value → Shared → Prop} {s : Shared} {value slice : PySem.Expr} {t u : Tok} {ps : List Nat} {i p : Nat} {Q : Value → Shared → Prop} (hp : ps[i]? = some p) (hl : ps.length ≤ 14)
    (h : Q (.str ⟨#[sg p]⟩ s.toks) { s with toks := s.toks + 1 })
    (hs : subscripted slice false (.str (mkT ps) t) (.int (i : Int) u) = operate [.str (mkT ps) t, .int (i : Int) u] (getItem (.str (mkT ps) t) (.int (i : Int) u)) := by with_unfolding_all rfl)
    (ht : ∀ r, letTemporaryGo value (.str (mkT ps) t) r = pure () := by intro _; with_unfolding_all rfl) :
    wpAny (model prog w) A (subscriptTail value slice (.str (mkT ps) t) (.int (i : Int) u)) Q E s := by
  have hi : i < ps.length := (List.getElem?_eq_some_iff.mp hp).1
  refine item_tab (l := ps.map sg) rfl (by omega) (by rw [List.length_map]; omega) (by rw [List.length_map]; omega) ?_ hs ht
  rw [Int.toNat_natCast, List.getD_eq_getElem?_getD, List.getElem?_map, hp]
  exact h
local macro_rules | `(tactic| walk_at "subscriptTail") => `(tactic| ((with_reducible show wpAny _ _ (subscriptTail _ _ (Value.str (mkT _) _) (Value.int _ _)) _ _ _); refine item_txt (by assumption) (by assumption) ?_))
local macro_rules | `(tactic| walk_at "call builtin:str.find") => `(tactic| (refine find_step cs_eq rfl (by assumption) ?_; intro _ _))
theorem stage4 {w : World} {mg mb : Str → Option Value} {mean : ExcName → Option Value} {dp un : Nat} {gd : Option (List Code)} {L fa : Addr} {cd : Value} {outer : List Env} {A₀ : Around} {base h₀ : Heap} {u : Str → Option Value} {s : Shared} {Q : Flow → Shared → Prop} {E : Value → Shared → Prop} {rest : List Stmt}
    {o1 o2 o3 : Obj} {D : Addr} {ws : List Value} {ps : List Nat} {i p : Nat} {t1 t2 ti : Tok}
    (B : Below A₀ base outer h₀) (F : Fr h₀ L s.heap (kstB u [(Str.ofString "cells", .ref D), (Str.ofString "place", .int (i : Int) ti)])) (X : (hd_bd.heap_39 w.params).In h₀) (N : News h₀ L s.heap [(D, W.listOf ws.toArray 0), (L + 1 + 1 + 1, o3), (L + 1 + 1, o2), (L + 1, o1)]) (T : Top hd_bd.view_39 (looseW hd_bd.view_39 []) mean mg mb h₀)
    (d1 : o1.data = .cell (some (.str csS t1))) (d2 : o2.data = .cell (some (.str (mkT ps) t2))) (h14 : ps.length ≤ 14) (hp : ps[i]? = some p) (hp95 : p < 95)
    (h : ∀ (u : Str → Option Value) (ti t : Tok) (h' : Heap) (tk : Nat), Fr h₀ L h' (kstB u [(Str.ofString "cells", .ref D), (Str.ofString "place", .int (i : Int) ti), (Str.ofString "spot", .int (p : Int) t)]) → News h₀ L h' [(D, W.listOf ws.toArray 0), (L + 1 + 1 + 1, o3), (L + 1 + 1, o2), (L + 1, o1)] →
      wpAny (model Challenge.rw_bd0006_01.row.prog w) (lawA dp un gd L fa cd outer) (execs rest (lawEnv L fa cd)) Q E { s with heap := h', toks := tk }) :
    wpAny (model Challenge.rw_bd0006_01.row.prog w) (lawA dp un gd L fa cd outer) (execs (lawSt 5 :: rest) (lawEnv L fa cd)) Q E s := by
  have hk : (hd_bd.heap_39 w.params).In h₀ → True := fun _ => trivial
  revert hk
  k_fill
  intro _
  conv in lawSt 5 => whnf
  repeat' ((fail_if_success (with_reducible show wpAny _ _ (execs rest _) _ _ _)); (first | (k_unfold; (try dsimp only)) | walk1 | (dsimp only; walk1)))
  (rename Fr h₀ L _ _ => fE)
  (rename News h₀ L _ _ => nE)
  exact h _ _ _ _ _ (fr_kst [(Str.ofString "cells", .ref D), (Str.ofString "place", .int _ _), (Str.ofString "spot", .int _ _)] (by kst_all) fE) nE
end
end Mine
theorem Mine.rst_BdS4 : True ∧ True := by
  w_top off
  (try walk1) <;> trivial
namespace Mine
section
set_option maxHeartbeats 2000000
theorem other_n {p n : Nat} {x : Int} (hn : 2 ≤ n) (hp : p % 32 < n) (hn2 : n ≤ 32) : ∃ m : Nat, ((p : Int).fmod 32 + 1 + x.fmod ((n : Int) - 1)).fmod (n : Int) = (m : Int) ∧ m < n ∧ m ≠ p % 32 := by
  have e2 : (p : Int).fmod 32 = ((p % 32 : Nat) : Int) := fmod_cast p 32
  have h1 := fmod_lo x (n := (n : Int) - 1) (by omega)
  have h2 := fmod_hi x (n := (n : Int) - 1) (by omega)
  generalize x.fmod ((n : Int) - 1) = r at h1 h2 ⊢
  rw [e2]
  generalize p % 32 = a at hp ⊢
  obtain ⟨r, rfl⟩ := Int.eq_ofNat_of_zero_le h1
  have e3 : ((a : Int) + 1 + (r : Int)).fmod (n : Int) = (((a + 1 + r) % n : Nat) : Int) := fmod_cast (a + 1 + r) n
  rw [e3]
  refine ⟨_, rfl, Nat.mod_lt _ (by omega), ?_⟩
  by_cases hlt : a + 1 + r < n
  · rw [Nat.mod_eq_of_lt hlt]; omega
  · rw [Nat.mod_eq_sub_mod (by omega), Nat.mod_eq_of_lt (by omega)]; omega
theorem other_q {p n : Nat} {x : Int} (hn : 2 ≤ n) (hp : p % 32 < n) (hn2 : n ≤ 32) : ∃ q : Nat, (p : Int).fdiv 32 * 32 + ((p : Int).fmod 32 + 1 + x.fmod ((n : Int) - 1)).fmod (n : Int) = (q : Int) ∧ q / 32 = p / 32 ∧ q % 32 < n ∧ q ≠ p := by
  have e1 : (p : Int).fdiv 32 = ((p / 32 : Nat) : Int) := fdiv_cast p 32
  obtain ⟨m, em, hm1, hm2⟩ := other_n (x := x) hn hp hn2
  rw [e1, em]
  exact ⟨p / 32 * 32 + m, by omega, by omega, by omega, by omega⟩
theorem other_hi {p : Nat} {x : Int} (h95 : p < 95) (h63 : 63 < (p : Int)) : ∃ q : Nat, (p : Int).fdiv 32 * 32 + ((p : Int).fmod 32 + 1 + x.fmod (31 - 1)).fmod 31 = (q : Int) ∧ q < 95 ∧ q / 32 = p / 32 ∧ q ≠ p := by
  obtain ⟨q, e, h1, h2, h3⟩ := other_q (p := p) (n := 31) (x := x) (by decide) (by omega) (by decide)
  exact ⟨q, e, by omega, h1, h3⟩
theorem other_lo {p : Nat} {x : Int} (h63 : ¬ 63 < (p : Int)) : ∃ q : Nat, (p : Int).fdiv 32 * 32 + ((p : Int).fmod 32 + 1 + x.fmod (32 - 1)).fmod 32 = (q : Int) ∧ q < 95 ∧ q / 32 = p / 32 ∧ q ≠ p := by
  obtain ⟨q, e, h1, h2, h3⟩ := other_q (p := p) (n := 32) (x := x) (by decide) (by omega) (by decide)
  exact ⟨q, e, by omega, h1, h3⟩
theorem fr_int {h₀ h : Heap} {L : Addr} {x : Str} {a b : Int} {t : Tok} {m : Str → Option Value} (F : Fr h₀ L h (fun y => if y = x then some (.int a t) else m y)) (e : a = b) : Fr h₀ L h (fun y => if y = x then some (.int b t) else m y) := by
  subst e; exact F
theorem stage5 {w : World} {mg mb : Str → Option Value} {mean : ExcName → Option Value} {dp un : Nat} {gd : Option (List Code)} {L fa : Addr} {cd : Value} {outer : List Env} {A₀ : Around} {base h₀ : Heap} {u : Str → Option Value} {s : Shared} {Q : Flow → Shared → Prop} {E : Value → Shared → Prop} {rest : List Stmt}
    {o1 o2 o3 : Obj} {D : Addr} {ws : List Value} {xs : List Int} {i p : Nat} {ti t : Tok}
    (B : Below A₀ base outer h₀) (F : Fr h₀ L s.heap (kstB u [(Str.ofString "cells", .ref D), (Str.ofString "place", .int (i : Int) ti), (Str.ofString "spot", .int (p : Int) t)])) (X : (hd_bd.heap_39 w.params).In h₀) (N : News h₀ L s.heap [(D, W.listOf ws.toArray 0), (L + 1 + 1 + 1, o3), (L + 1 + 1, o2), (L + 1, o1)]) (T : Top hd_bd.view_39 (looseW hd_bd.view_39 []) mean mg mb h₀)
    (hi : IntsAre ws xs) (h6 : 6 ≤ xs.length) (hp95 : p < 95)
    (h : ∀ (u : Str → Option Value) (q : Nat) (ti t tq : Tok) (h' : Heap) (tk : Nat), q < 95 → q / 32 = p / 32 → q ≠ p → Fr h₀ L h' (kstB u [(Str.ofString "place", .int (i : Int) ti), (Str.ofString "spot", .int (p : Int) t), (Str.ofString "other", .int (q : Int) tq)]) → News h₀ L h' [(L + 1 + 1 + 1, o3), (L + 1 + 1, o2), (L + 1, o1)] →
      wpAny (model Challenge.rw_bd0006_01.row.prog w) (lawA dp un gd L fa cd outer) (execs rest (lawEnv L fa cd)) Q E { s with heap := h', toks := tk }) :
    wpAny (model Challenge.rw_bd0006_01.row.prog w) (lawA dp un gd L fa cd outer) (execs (lawSt 6 :: lawSt 7 :: rest) (lawEnv L fa cd)) Q E s := by
  have hk : (hd_bd.heap_39 w.params).In h₀ → True := fun _ => trivial
  revert hk
  k_fill
  intro _
  have hxl : 0 < xs.length := by omega
  have hxl1 : 1 < xs.length := by omega
  conv in lawSt 6 => whnf
  conv in lawSt 7 => whnf
  repeat' ((fail_if_success (with_reducible show wpAny _ _ (execs rest _) _ _ _)); (first | (k_unfold; (try dsimp only)) | walk1 | (dsimp only; walk1)))
  · (rename Fr h₀ L _ _ => fE)
    (rename News h₀ L _ _ => nE)
    have hh : 63 < (p : Int) := by with_reducible assumption
    refine Exists.elim (other_hi (x := xs.getD (Int.toNat 1) 0) hp95 hh) fun q hq => ?_
    replace fE := fr_int fE hq.1
    exact h _ q _ _ _ _ _ hq.2.1 hq.2.2.1 hq.2.2.2 (fr_kst [(Str.ofString "place", .int _ _), (Str.ofString "spot", .int _ _), (Str.ofString "other", .int _ _)] (by kst_all) fE) (fun p hp => nE p (.tail _ hp))
  · (rename Fr h₀ L _ _ => fE)
    (rename News h₀ L _ _ => nE)
    have hh : ¬ 63 < (p : Int) := by with_reducible assumption
    refine Exists.elim (other_lo (p := p) (x := xs.getD (Int.toNat 1) 0) hh) fun q hq => ?_
    replace fE := fr_int fE hq.1
    exact h _ q _ _ _ _ _ hq.2.1 hq.2.2.1 hq.2.2.2 (fr_kst [(Str.ofString "place", .int _ _), (Str.ofString "spot", .int _ _), (Str.ofString "other", .int _ _)] (by kst_all) fE) (fun p hp => nE p (.tail _ hp))
end
end Mine
theorem Mine.rst_BdS5 : True ∧ True := by
  w_top off
  (try walk1) <;> trivial
namespace Mine
section
set_option maxHeartbeats 2000000
local macro_rules | `(tactic| walk_at "subscriptTail Name Name str int") => `(tactic| (refine item_cs (by omega) (by omega) ?_))
theorem slice_to {ps : List Nat} {i : Nat} (h : i ≤ ps.length) : Txt.slice (mkT ps) none (some (i : Int)) = mkT (ps.take i) := by
  have hl : (mkT ps).cps.toList.length = ps.length := by simp [mkT]
  have e := eq_of_beq (slice_closes_to (x := mkT ps) (j := (i : Int)) ⟨by omega, by rw [hl]; omega⟩)
  rw [e]
  refine Str.ext' ?_
  simp [mkT, List.map_take]
theorem slice_from {ps : List Nat} {i : Nat} (h : i < ps.length) : Txt.slice (mkT ps) (some ((i : Int) + 1)) none = mkT (ps.drop (i + 1)) := by
  have hl : (mkT ps).length = ps.length := by simp [mkT, PySem.Str.length]
  rw [slice_from_eq (x := mkT ps) (i := (i : Int) + 1) (b := (ps.length : Int)) (by omega) (by rw [hl]; omega) (by rw [hl])]
  refine Str.ext' ?_
  rw [show ((i : Int) + 1).toNat = i + 1 from by omega, show ((ps.length : Int) - ((i : Int) + 1)).toNat = ps.length - (i + 1) from by omega]
  have e : ((ps.map sg).drop (i + 1)).take (ps.length - (i + 1)) = (ps.map sg).drop (i + 1) := List.take_of_length_le (by rw [List.length_drop, List.length_map]; omega)
  show (((mkT ps).cps.toList.drop (i + 1)).take (ps.length - (i + 1))).toArray = ((ps.drop (i + 1)).map sg).toArray
  rw [show (mkT ps).cps.toList = ps.map sg from rfl, e, List.map_drop]
theorem mkT_append (a b : List Nat) : mkT a ++ mkT b = mkT (a ++ b) := by
  refine Str.ext' ?_
  rw [Str.cps_append]
  simp [mkT]
theorem set_text {ps : List Nat} {i q : Nat} (h : i < ps.length) : Txt.slice (mkT ps) none (some (i : Int)) ++ (⟨#[csL.getD ((q : Int)).toNat 0]⟩ : Str) ++ Txt.slice (mkT ps) (some ((i : Int) + 1)) none = mkT (ps.set i q) := by
  rw [slice_to (by omega), slice_from h, Int.toNat_natCast, show (⟨#[csL.getD q 0]⟩ : Str) = mkT [q] from rfl, mkT_append, mkT_append, List.set_eq_take_append_cons_drop, if_pos h]
  simp
theorem fr_str {h₀ h : Heap} {L : Addr} {x : Str} {a b : Str} {t : Tok} {m : Str → Option Value} (F : Fr h₀ L h (fun y => if y = x then some (.str a t) else m y)) (e : a = b) : Fr h₀ L h (fun y => if y = x then some (.str b t) else m y) := by
  subst e; exact F
theorem stage6 {w : World} {mg mb : Str → Option Value} {mean : ExcName → Option Value} {dp un : Nat} {gd : Option (List Code)} {L fa : Addr} {cd : Value} {outer : List Env} {A₀ : Around} {base h₀ : Heap} {u : Str → Option Value} {s : Shared} {Q : Flow → Shared → Prop} {E : Value → Shared → Prop} {rest : List Stmt}
    {o1 o2 o3 : Obj} {ps : List Nat} {i p q : Nat} {ti t tq t1 t2 : Tok}
    (B : Below A₀ base outer h₀) (F : Fr h₀ L s.heap (kstB u [(Str.ofString "place", .int (i : Int) ti), (Str.ofString "spot", .int (p : Int) t), (Str.ofString "other", .int (q : Int) tq)])) (X : (hd_bd.heap_39 w.params).In h₀) (N : News h₀ L s.heap [(L + 1 + 1 + 1, o3), (L + 1 + 1, o2), (L + 1, o1)]) (T : Top hd_bd.view_39 (looseW hd_bd.view_39 []) mean mg mb h₀)
    (d1 : o1.data = .cell (some (.str csS t1))) (d2 : o2.data = .cell (some (.str (mkT ps) t2))) (h14 : ps.length ≤ 14) (hil : i < ps.length) (hq : q < 95)
    (h : ∀ (u : Str → Option Value) (ti t tq tt : Tok) (h' : Heap) (tk : Nat), Fr h₀ L h' (kstB u [(Str.ofString "place", .int (i : Int) ti), (Str.ofString "spot", .int (p : Int) t), (Str.ofString "other", .int (q : Int) tq), (Str.ofString "turned", .str (mkT (ps.set i q)) tt)]) → News h₀ L h' [(L + 1 + 1 + 1, o3), (L + 1 + 1, o2), (L + 1, o1)] →
      wpAny (model Challenge.rw_bd0006_01.row.prog w) (lawA dp un gd L fa cd outer) (execs rest (lawEnv L fa cd)) Q E { s with heap := h', toks := tk }) :
    wpAny (model Challenge.rw_bd0006_01.row.prog w) (lawA dp un gd L fa cd outer) (execs (lawSt 8 :: rest) (lawEnv L fa cd)) Q E s := by
  have hk : (hd_bd.heap_39 w.params).In h₀ → True := fun _ => trivial
  revert hk
  k_fill
  intro _
  have hlen : (mkT ps).length = ps.length := mkT_length ps
  conv in lawSt 8 => whnf
  repeat' ((fail_if_success (with_reducible show wpAny _ _ (execs rest _) _ _ _)); (first | (k_unfold; (try dsimp only)) | walk1 | (dsimp only; walk1)))
  (rename Fr h₀ L _ _ => fE)
  (rename News h₀ L _ _ => nE)
  replace fE := fr_str fE (set_text hil)
  exact h _ _ _ _ _ _ _ (fr_kst [(Str.ofString "place", .int _ _), (Str.ofString "spot", .int _ _), (Str.ofString "other", .int _ _), (Str.ofString "turned", .str _ _)] (by kst_all) fE) nE
end
end Mine
theorem Mine.rst_BdS6 : True ∧ True := by
  w_top off
  (try walk1) <;> trivial
namespace Mine
section
set_option maxHeartbeats 2000000
local macro_rules | `(tactic| walk_at "call ref") => `(tactic| (k_here; (with_reducible show wpAny _ _ (call (Value.ref 51) _) _ _ _); with_unfolding_all (refine' checksum_use ?k1 ?k2 ?k3 ?k4 ?k5 ?kK ?kd ?ku ?kp ?_; (case k1 => k_asm); (case k2 => k_asm); (case k3 => k_asm); (case k4 => k_asm); (case k5 => k_asm); (case kK => exact rfl); (case kd => omega); (case ku => omega); (case kp => assumption); k_whole; intro t9 h9 tk9 F9 N9; (try dsimp only); (try k_fold))))
theorem stage7 {w : World} {mg mb : Str → Option Value} {mean : ExcName → Option Value} {dp un : Nat} {gd : Option (List Code)} {L fa : Addr} {cd : Value} {outer : List Env} {A₀ : Around} {base h₀ : Heap} {u : Str → Option Value} {s : Shared} {Q : Flow → Shared → Prop} {E : Value → Shared → Prop} {rest : List Stmt}
    {o1 o2 o3 : Obj} {ps : List Nat} {i p q : Nat} {ti t tq tt t2 : Tok}
    (B : Below A₀ base outer h₀) (F : Fr h₀ L s.heap (kstB u [(Str.ofString "place", .int (i : Int) ti), (Str.ofString "spot", .int (p : Int) t), (Str.ofString "other", .int (q : Int) tq), (Str.ofString "turned", .str (mkT (ps.set i q)) tt)])) (X : (hd_bd.heap_39 w.params).In h₀) (N : News h₀ L s.heap [(L + 1 + 1 + 1, o3), (L + 1 + 1, o2), (L + 1, o1)]) (T : Top hd_bd.view_39 (looseW hd_bd.view_39 []) mean mg mb h₀)
    (d2 : o2.data = .cell (some (.str (mkT ps) t2))) (hps : ∀ p ∈ ps, p < 95) (hps2 : ∀ p ∈ ps.set i q, p < 95)
    (hd : dp + 10 < recursionLimit) (hu : un + 80 < cLine)
    (h : ∀ (u : Str → Option Value) (ti t tq tt ta tb : Tok) (h' : Heap) (tk : Nat), Fr h₀ L h' (kstB u [(Str.ofString "place", .int (i : Int) ti), (Str.ofString "spot", .int (p : Int) t), (Str.ofString "other", .int (q : Int) tq), (Str.ofString "turned", .str (mkT (ps.set i q)) tt), (Str.ofString "told", .str (chk ps) ta), (Str.ofString "found", .str (chk (ps.set i q)) tb)]) → News h₀ L h' [(L + 1 + 1 + 1, o3), (L + 1 + 1, o2), (L + 1, o1)] →
      wpAny (model Challenge.rw_bd0006_01.row.prog w) (lawA dp un gd L fa cd outer) (execs rest (lawEnv L fa cd)) Q E { s with heap := h', toks := tk }) :
    wpAny (model Challenge.rw_bd0006_01.row.prog w) (lawA dp un gd L fa cd outer) (execs (lawSt 9 :: rest) (lawEnv L fa cd)) Q E s := by
  have hk : (hd_bd.heap_39 w.params).In h₀ → True := fun _ => trivial
  revert hk
  k_fill
  intro _
  conv in lawSt 9 => whnf
  repeat' ((fail_if_success (with_reducible show wpAny _ _ (execs rest _) _ _ _)); (first | (k_unfold; (try dsimp only)) | walk1 | (dsimp only; walk1)))
  (rename Fr h₀ L _ _ => fE)
  (rename News h₀ L _ _ => nE)
  exact h _ _ _ _ _ _ _ _ _ (fr_kst [(Str.ofString "place", .int _ _), (Str.ofString "spot", .int _ _), (Str.ofString "other", .int _ _), (Str.ofString "turned", .str _ _), (Str.ofString "told", .str _ _), (Str.ofString "found", .str _ _)] (by kst_all) fE) (fun p hp => nE p (.tail _ hp))
end
end Mine
theorem Mine.rst_BdS7 : True ∧ True := by
  w_top off
  (try walk1) <;> trivial
namespace Mine
section
set_option maxHeartbeats 2000000
local macro_rules | `(tactic| walk_at "eval ListComp") => `(tactic| (k_here; k_dflt (refine ListComp_Z (by with_unfolding_all rfl) (by decide) (by rfl) (by decide) (by rfl) (by rfl) (by decide) ?_)))
local macro_rules | `(tactic| walk_at "eval Name") => `(tactic| first | (refine name_ns (by assumption) (by assumption) ?_) | k_dflt (refine' name_gl ?F ?X ?T ?e ?_ ?g ?a ?b; (case F => k_asm); (case X => k_asm); (case T => k_asm); (case g => rfl); (case a => rfl); (case b => rfl); (case e => k_is); k_whole))
local macro_rules | `(tactic| walk_at "call builtin:str.find") => `(tactic| (refine find_ks_step ks_eq (by assumption) ?_; intro _ _))
local macro_rules | `(tactic| walk_at "call type:zip") => `(tactic| (k_here; with_unfolding_all (refine zip_chk (by rfl) (by k_asm) (by k_asm) (fun d1' d2' t1' t2' C' m' h' tk' E' hd1' hd2' hns' hm1' hm2' F' N' => ?ke) (fun D' h' tk' zs' F' N' hD' hz' => ?kf))))
theorem rev_any {prog : Program} {w : World} {A : Around} {E : Value → Shared → Prop} {s : Shared} {h₀ : Heap} {L : Addr} {m : Str → Option Value} {news : List (Addr × Obj)} {value slice : PySem.Expr} {l : Addr} {vs : List Value} {ns : List Int} {t : Tok} {ops : List Value} {Q : Value → Shared → Prop}
    (F : Fr h₀ L s.heap m) (N : News h₀ L s.heap news) (hl : s.heap.IsList l vs.toArray) (hi : IntsAre vs ns) (hz : ns.length ≤ 1000)
    (h : ∀ D ws h', Fr h₀ L h' m → News h₀ L h' ((D, W.listOf (List.toArray ws) 0) :: news) → (∀ p ∈ news, p.1 < D) → IntsAre ws ns.reverse → Q (.ref D) { s with heap := h' })
    (hs : subscripted slice false (.ref l) (.ref s.heap.objs.size) = operate ops (getItem (.ref l) (.ref s.heap.objs.size)) := by with_unfolding_all rfl) :
    wpAny (model prog w) A (subscriptTail value slice (.ref l) (.ref s.heap.objs.size)) Q E { s with heap := s.heap.push { cls := .type "slice", data := .fields #[.none, .none, .int (-1) t] } } := by
  have hsz : vs.toArray.size ≤ sizeLine := by rw [List.size_toArray, hi.length, PySem.sizeLine_eq]; omega
  refine tail_any (Heap.IsList.typeIs (s := { s with heap := s.heap.push { cls := .type "slice", data := .fields #[.none, .none, .int (-1) t] } }) (hl.push _)) list_getitem_lookup
    (wpAny_getItem_list_slice (hl.push _) (Heap.IsSliceOf.new ..) .none .none (.int _ _) (by decide) ?_ hsz) hs
  have N1 := News.push (F.push { cls := .type "slice", data := .fields #[.none, .none, .int (-1) t] }) (N.grown fun _ _ e => Heap.get?_push_of_some _ e) { cls := .type "list", data := .seq (slicePick vs.toArray none none (some (-1))) }
  rw [krv_pick, Heap.size_push] at N1
  show Q (.ref (s.heap.push _).objs.size) _
  rw [Heap.size_push, krv_pick]
  exact h _ vs.reverse _ ((F.push _).push _) N1 (fun p hp => Nat.lt_succ_of_lt (Heap.lt_size (N p hp).1)) hi.reverse
theorem rowX_len (a b : Nat) : (rowX a b).length = 8 := by unfold rowX; rw [List.length_zipWith]; rfl
theorem stage8 {w : World} {mg mb : Str → Option Value} {mean : ExcName → Option Value} {dp un : Nat} {gd : Option (List Code)} {L fa : Addr} {cd : Value} {outer : List Env} {A₀ : Around} {base h₀ : Heap} {u : Str → Option Value} {s : Shared} {Q : Flow → Shared → Prop} {E : Value → Shared → Prop} {rest : List Stmt}
    {o1 o2 o3 : Obj} {a b : Nat} {i p q : Nat} {tx : Str} {ti t tq tt ta tb : Tok}
    (B : Below A₀ base outer h₀) (F : Fr h₀ L s.heap (kstB u [(Str.ofString "place", .int (i : Int) ti), (Str.ofString "spot", .int (p : Int) t), (Str.ofString "other", .int (q : Int) tq), (Str.ofString "turned", .str tx tt), (Str.ofString "told", .str (mkK (digs a)) ta), (Str.ofString "found", .str (mkK (digs b)) tb)])) (X : (hd_bd.heap_39 w.params).In h₀) (N : News h₀ L s.heap [(L + 1 + 1 + 1, o3), (L + 1 + 1, o2), (L + 1, o1)]) (T : Top hd_bd.view_39 (looseW hd_bd.view_39 []) mean mg mb h₀)
    (h : ∀ (u : Str → Option Value) (ti t tq tt ta tb : Tok) (D : Addr) (vs : List Value) (n : Nat) (h' : Heap) (tk : Nat), Fr h₀ L h' (kstB u [(Str.ofString "place", .int (i : Int) ti), (Str.ofString "spot", .int (p : Int) t), (Str.ofString "other", .int (q : Int) tq), (Str.ofString "turned", .str tx tt), (Str.ofString "told", .str (mkK (digs a)) ta), (Str.ofString "found", .str (mkK (digs b)) tb), (Str.ofString "row", .ref D)]) → News h₀ L h' [(D, W.listOf vs.toArray n), (L + 1 + 1 + 1, o3), (L + 1 + 1, o2), (L + 1, o1)] →
      @LT.lt Nat _ (L + 1 + 1 + 1) D → IntsAre vs (rowX a b).reverse → wpAny (model Challenge.rw_bd0006_01.row.prog w) (lawA dp un gd L fa cd outer) (execs rest (lawEnv L fa cd)) Q E { s with heap := h', toks := tk }) :
    wpAny (model Challenge.rw_bd0006_01.row.prog w) (lawA dp un gd L fa cd outer) (execs (lawSt 10 :: rest) (lawEnv L fa cd)) Q E s := by
  have hk : (hd_bd.heap_39 w.params).In h₀ → True := fun _ => trivial
  revert hk
  k_fill
  intro _
  conv in lawSt 10 => whnf
  iterate 13 (first | (k_unfold; (try dsimp only)) | walk1 | (dsimp only; walk1))
  · iterate 19 (first | (k_unfold; (try dsimp only)) | walk1 | (dsimp only; walk1))
    k_unfold
    exact ⟨⟨_, rfl⟩, _, rfl⟩
  · iterate 7 (first | (k_unfold; (try dsimp only)) | walk1 | (dsimp only; walk1))
    rename_i zs _ hDl hzs
    (rename Fr h₀ L _ _ => fE)
    (rename News h₀ L _ _ => nE)
    refine rev_any fE nE (News.isList nE (.head _)) hzs (by rw [rowX_len]; decide) ?_
    intro D2 ws2 h2 F2 N2 l2 i2
    dsimp only
    try k_unfold
    have l3 : @LT.lt Nat _ (L + 1 + 1 + 1) D2 := l2 (L + 1 + 1 + 1, o3) (.tail _ (.head _))
    clear fE nE F N hDl l2
    walk1
    (rename Fr h₀ L _ _ => fE)
    (rename News h₀ L _ _ => nE)
    exact h _ _ _ _ _ _ _ D2 ws2 _ _ _ (fr_kst [(Str.ofString "place", .int _ _), (Str.ofString "spot", .int _ _), (Str.ofString "other", .int _ _), (Str.ofString "turned", .str _ _), (Str.ofString "told", .str _ _), (Str.ofString "found", .str _ _), (Str.ofString "row", .ref _)] (by kst_all) fE)
      (fun p hp => nE p (by revert p; exact List.forall_mem_cons.mpr ⟨.head _, fun p hp => .tail _ (.tail _ hp)⟩)) l3 i2
end
end Mine
theorem Mine.rst_BdS8 : True ∧ True := by
  w_top off
  (try walk1) <;> trivial
namespace Mine
section
set_option maxHeartbeats 2000000
local macro_rules | `(tactic| walk_at "ite") => `(tactic| (refine ite_neg (by assumption) ?_))
theorem stage9 {w : World} {mg mb : Str → Option Value} {mean : ExcName → Option Value} {dp un : Nat} {gd : Option (List Code)} {L fa : Addr} {cd : Value} {outer : List Env} {A₀ : Around} {base h₀ : Heap} {u : Str → Option Value} {s : Shared} {Q : Flow → Shared → Prop} {E : Value → Shared → Prop} {rest : List Stmt}
    {o1 o2 o3 : Obj} {a b : Nat} {i p q : Nat} {tx : Str} {ti t tq tt ta tb : Tok} {D : Addr} {vs : List Value} {n : Nat}
    (B : Below A₀ base outer h₀) (F : Fr h₀ L s.heap (kstB u [(Str.ofString "place", .int (i : Int) ti), (Str.ofString "spot", .int (p : Int) t), (Str.ofString "other", .int (q : Int) tq), (Str.ofString "turned", .str tx tt), (Str.ofString "told", .str (mkK (digs a)) ta), (Str.ofString "found", .str (mkK (digs b)) tb), (Str.ofString "row", .ref D)])) (X : (hd_bd.heap_39 w.params).In h₀) (N : News h₀ L s.heap [(D, W.listOf vs.toArray n), (L + 1 + 1 + 1, o3), (L + 1 + 1, o2), (L + 1, o1)]) (T : Top hd_bd.view_39 (looseW hd_bd.view_39 []) mean mg mb h₀)
    (hne : ¬ ((mkK (digs b) == mkK (digs a)) = true))
    (h : ∀ (h' : Heap) (tk : Nat), Fr h₀ L h' (kstB u [(Str.ofString "place", .int (i : Int) ti), (Str.ofString "spot", .int (p : Int) t), (Str.ofString "other", .int (q : Int) tq), (Str.ofString "turned", .str tx tt), (Str.ofString "told", .str (mkK (digs a)) ta), (Str.ofString "found", .str (mkK (digs b)) tb), (Str.ofString "row", .ref D)]) → News h₀ L h' [(D, W.listOf vs.toArray n), (L + 1 + 1 + 1, o3), (L + 1 + 1, o2), (L + 1, o1)] → wpAny (model Challenge.rw_bd0006_01.row.prog w) (lawA dp un gd L fa cd outer) (execs rest (lawEnv L fa cd)) Q E { s with heap := h', toks := tk }) :
    wpAny (model Challenge.rw_bd0006_01.row.prog w) (lawA dp un gd L fa cd outer) (execs (lawSt 11 :: rest) (lawEnv L fa cd)) Q E s := by
  have hk : (hd_bd.heap_39 w.params).In h₀ → True := fun _ => trivial
  revert hk
  k_fill
  intro _
  have hla : (mkK (digs a)).length = 8 := by rw [mkK_length]; rfl
  have hlb : (mkK (digs b)).length = 8 := by rw [mkK_length]; rfl
  conv in lawSt 11 => whnf
  repeat' ((fail_if_success (with_reducible show wpAny _ _ (execs rest _) _ _ _)); (first | (k_unfold; (try dsimp only)) | walk1 | (dsimp only; walk1)))
  · exfalso; omega
  · exfalso; omega
  · exact h _ _ F N
end
end Mine
theorem Mine.rst_BdS9 : True ∧ True := by
  w_top off
  (try walk1) <;> trivial
namespace Mine
section
set_option maxHeartbeats 2000000
theorem field_use {w : World} {mg mb : Str → Option Value} {mean : ExcName → Option Value} {news : List (Addr × Obj)}
    {dp un : Nat} {gd : Option (List Code)} {cn : Str} {cs : Scope} {a : Addr} {ccd : Value} {cl : List (Str × Addr)} {outer : List Env} {A₀ : Around} {base h₀ : Heap} {L : Addr} {m : Str → Option Value} {s : Shared} {Q E : Value → Shared → Prop}
    (B : Below A₀ base outer h₀) (F : Fr h₀ L s.heap m) (X : (hd_bd.heap_39 w.params).In h₀) (N : News h₀ L s.heap news) (T : Top hd_bd.view_39 (looseW hd_bd.view_39 []) mean mg mb h₀) (hk : cs.kind = .function)
    (hd : dp + 4 < recursionLimit) (hu : un + 32 < cLine)
    (h : ∀ (fa lp ll : Addr) (vp vl : List Value) (n : Nat) h' tk', Fr h₀ L h' m → News h₀ L h' ([(fa, ({ cls := .type "tuple", data := .seq #[.ref lp, .ref ll] } : Obj)), (ll, W.listOf vl.toArray 0), (lp, W.listOf vp.toArray n)] ++ news) → IntsAre vp powL → IntsAre vl logL →
      (∀ q ∈ news, @Ne Nat q.1 fa ∧ @Ne Nat q.1 ll ∧ @Ne Nat q.1 lp) → Q (.ref fa) { s with heap := h', toks := tk' }) :
    wpAny (model Challenge.rw_bd0006_01.row.prog w) (ktrTop dp un gd cn cs L a ccd cl outer) (call (.ref 72) []) Q E s := by
  refine field_con dp un gd cn cs a ccd cl outer A₀ base h₀ L m s Q E B F X N T hk hd (by omega) ?_
  rintro r tl h' tk' F' N' hne ⟨fa, lp, ll, vp, vl, n, rfl, rfl, i1, i2⟩
  exact h fa lp ll vp vl n h' tk' F' N' i1 i2 fun q hq => ⟨hne _ (.head _) q hq, hne _ (.tail _ (.head _)) q hq, hne _ (.tail _ (.tail _ (.head _))) q hq⟩
local macro_rules | `(tactic| walk_at "call ref") => `(tactic| (k_here; (with_reducible show wpAny _ _ (call (Value.ref 72) _) _ _ _); with_unfolding_all (refine' field_use ?k1 ?k2 ?k3 ?k4 ?k5 ?kK ?kd ?ku ?_; (case k1 => k_asm); (case k2 => k_asm); (case k3 => k_asm); (case k4 => k_asm); (case k5 => k_asm); (case kK => exact rfl); (case kd => omega); (case ku => omega); k_whole; intro fa' lp' ll' vp' vl' n' h9 tk9 F9 N9 iP' iL' hne'; (simp only [List.forall_mem_cons, List.not_mem_nil, false_implies, implies_true, and_true] at hne'); (simp only [List.cons_append, List.nil_append] at N9); (try dsimp only); (try k_fold))))
theorem stage10 {w : World} {mg mb : Str → Option Value} {mean : ExcName → Option Value} {dp un : Nat} {gd : Option (List Code)} {L fa₀ : Addr} {cd : Value} {outer : List Env} {A₀ : Around} {base h₀ : Heap} {u : Str → Option Value} {s : Shared} {Q : Flow → Shared → Prop} {E : Value → Shared → Prop} {rest : List Stmt}
    {o1 o2 o3 : Obj} {i p q : Nat} {tx y1 : Str} {ti t tq tt ta : Tok} {D : Addr} {vs : List Value} {n : Nat} {c3 : Option Value}
    (B : Below A₀ base outer h₀) (F : Fr h₀ L s.heap (kstB u [(Str.ofString "place", .int (i : Int) ti), (Str.ofString "spot", .int (p : Int) t), (Str.ofString "other", .int (q : Int) tq), (Str.ofString "turned", .str tx tt), (Str.ofString "told", .str y1 ta), (Str.ofString "row", .ref D)])) (X : (hd_bd.heap_39 w.params).In h₀) (N : News h₀ L s.heap [(D, W.listOf vs.toArray n), (L + 1 + 1 + 1, o3), (L + 1 + 1, o2), (L + 1, o1)]) (T : Top hd_bd.view_39 (looseW hd_bd.view_39 []) mean mg mb h₀)
    (hLD : @LT.lt Nat _ (L + 1 + 1 + 1) D) (d3 : o3.data = .cell c3) (hd : dp + 10 < recursionLimit) (hu : un + 80 < cLine)
    (h : ∀ (u : Str → Option Value) (ti t tq tt ta : Tok) (fa lp ll ya : Addr) (vp vl : List Value) (np : Nat) (o3 : Obj) (h' : Heap) (tk : Nat), Fr h₀ L h' (kstB u [(Str.ofString "place", .int (i : Int) ti), (Str.ofString "spot", .int (p : Int) t), (Str.ofString "other", .int (q : Int) tq), (Str.ofString "turned", .str tx tt), (Str.ofString "told", .str y1 ta), (Str.ofString "row", .ref D), (Str.ofString "field", .ref fa)]) →
      News h₀ L h' [(ya, W.listOf #[] 0), (L + 1 + 1 + 1, o3), (fa, ({ cls := .type "tuple", data := .seq #[.ref lp, .ref ll] } : Obj)), (ll, W.listOf vl.toArray 0), (lp, W.listOf vp.toArray np), (D, W.listOf vs.toArray n), (L + 1 + 1, o2), (L + 1, o1)] →
      IntsAre vp powL → IntsAre vl logL → o3.data = .cell (some (.ref ya)) → (∀ a ∈ [L + 1 + 1 + 1, fa, ll, lp, D, L + 1 + 1, L + 1], @LT.lt Nat _ a ya) → wpAny (model Challenge.rw_bd0006_01.row.prog w) (lawA dp un gd L fa₀ cd outer) (execs rest (lawEnv L fa₀ cd)) Q E { s with heap := h', toks := tk }) :
    wpAny (model Challenge.rw_bd0006_01.row.prog w) (lawA dp un gd L fa₀ cd outer) (execs (lawSt 12 :: rest) (lawEnv L fa₀ cd)) Q E s := by
  have hk : (hd_bd.heap_39 w.params).In h₀ → True := fun _ => trivial
  revert hk
  k_fill
  intro _
  conv in lawSt 12 => whnf
  repeat' ((fail_if_success (with_reducible show wpAny _ _ (execs rest _) _ _ _)); (first | (k_unfold; (try dsimp only)) | walk1 | (dsimp only; walk1)))
  (rename Fr h₀ L _ _ => fE)
  (rename News h₀ L _ _ => nE)
  (rename Obj.data _ = Data.cell (some (Value.ref _)) => dE)
  (rename _ ∧ _ => lT)
  clear lT
  (rename _ ∧ _ => lY)
  exact h _ _ _ _ _ _ _ _ _ _ _ _ _ _ _ _ (fr_kst [(Str.ofString "place", .int _ _), (Str.ofString "spot", .int _ _), (Str.ofString "other", .int _ _), (Str.ofString "turned", .str _ _), (Str.ofString "told", .str _ _), (Str.ofString "row", .ref _), (Str.ofString "field", .ref _)] (by kst_all) fE)
    (kst_newsOf nE (by kst_inAny)) (by assumption) (by assumption) dE
    (by simp only [List.forall_mem_cons, List.not_mem_nil, false_implies, implies_true, and_true]; omega)
end
end Mine
theorem Mine.rst_BdS10 : True ∧ True := by
  w_top off
  (try walk1) <;> trivial
namespace Mine
section
set_option maxHeartbeats 2000000
/-- the ways found so far: tuples of two ints -/
inductive WaysIn (news : List (Addr × Obj)) : List Value → List (Int × Int) → Prop
  | nil : WaysIn news [] []
  | cons {T : Addr} {a b : Int} {ta tb : Tok} {n : Nat} {ws : List Value} {wl : List (Int × Int)} : (T, ({ cls := .type "tuple", data := .seq #[.int a ta, .int b tb] n } : Obj)) ∈ news → WaysIn news ws wl → WaysIn news (.ref T :: ws) ((a, b) :: wl)
theorem WaysIn.mono {news news' : List (Addr × Obj)} (hs : ∀ p ∈ news, p ∈ news') {ws : List Value} {wl : List (Int × Int)} (h : WaysIn news ws wl) : WaysIn news' ws wl := by
  induction h with
  | nil => exact .nil
  | cons hm _ ih => exact .cons (hs _ hm) ih
theorem WaysIn.snoc {news : List (Addr × Obj)} {ws : List Value} {wl : List (Int × Int)} {T : Addr} {a b : Int} {ta tb : Tok} {n : Nat} (h : WaysIn news ws wl) (hm : (T, ({ cls := .type "tuple", data := .seq #[.int a ta, .int b tb] n } : Obj)) ∈ news) : WaysIn news (ws ++ [.ref T]) (wl ++ [(a, b)]) := by
  induction h with
  | nil => exact .cons hm .nil
  | cons hm' _ ih => exact .cons hm' ih
theorem WaysIn.len {news : List (Addr × Obj)} {ws : List Value} {wl : List (Int × Int)} (h : WaysIn news ws wl) : ws.length = wl.length := by
  induction h with
  | nil => rfl
  | cons _ _ ih => rw [List.length_cons, List.length_cons, ih]
structure WayS where
  r : Addr
  rv : List Value
  rn : Nat
  ws : List Value
  wv : Nat
  rs : List Int
  wl : List (Int × Int)
def rowAt (rs : List Int) (k : Nat) : List Int := Nat.repeat lowI k rs
theorem rowAt_succ (rs : List Int) (k : Nat) : rowAt rs (k + 1) = lowI (rowAt rs k) := rfl
def wayOf (rs : List Int) (k : Nat) : List (Int × Int) := if (rowAt rs k).drop 1 = [0, 0, 0, 0, 0, 0, 0] then [((k : Int), (rowAt rs k).getD 0 0)] else []
def waysTo (rs : List Int) (k : Nat) : List (Int × Int) := (List.range k).flatMap (wayOf rs)
theorem waysTo_succ (rs : List Int) (k : Nat) : waysTo rs (k + 1) = waysTo rs k ++ wayOf rs k := by
  unfold waysTo
  rw [List.range_succ, List.flatMap_append, List.flatMap_singleton]
def RowOk (rs : List Int) : Prop := rs.length = 8 ∧ ∀ x ∈ rs, 0 ≤ x ∧ x < 32
theorem ite_cases {c : Prop} [Decidable c] {a b : Prop} (ha : c → a) (hb : ¬ c → b) : if c then a else b := by
  by_cases h : c
  · rw [if_pos h]; exact ha h
  · rw [if_neg h]; exact hb h
theorem lower_use {w : World} {mg mb : Str → Option Value} {mean : ExcName → Option Value} {news : List (Addr × Obj)} {fa lp ll ra : Addr} {vp vl : List Value} {np nl : Nat} {rs : List Int} {vr : List Value} {nr : Nat}
    {dp un : Nat} {gd : Option (List Code)} {cn : Str} {cs : Scope} {a : Addr} {ccd : Value} {cl : List (Str × Addr)} {outer : List Env} {A₀ : Around} {base h₀ : Heap} {L : Addr} {m : Str → Option Value} {s : Shared} {Q E : Value → Shared → Prop}
    (m1 : (fa, ({ cls := .type "tuple", data := .seq #[.ref lp, .ref ll] } : Obj)) ∈ news) (m2 : (ll, W.listOf vl.toArray nl) ∈ news) (m3 : (lp, W.listOf vp.toArray np) ∈ news) (m4 : (ra, W.listOf vr.toArray nr) ∈ news)
    (iP : IntsAre vp powL) (iL : IntsAre vl logL) (iR : IntsAre vr rs) (hok : RowOk rs)
    (B : Below A₀ base outer h₀) (F : Fr h₀ L s.heap m) (X : (hd_bd.heap_39 w.params).In h₀) (N : News h₀ L s.heap news) (T : Top hd_bd.view_39 (looseW hd_bd.view_39 []) mean mg mb h₀) (hk : cs.kind = .function)
    (hd : dp + 4 < recursionLimit) (hu : un + 32 < cLine)
    (h : ∀ (r2 : Addr) (v2 : List Value) (n2 : Nat) h' tk', Fr h₀ L h' m → News h₀ L h' ((r2, W.listOf v2.toArray n2) :: news) → IntsAre v2 (lowI rs) → (∀ q ∈ news, q.1 ≠ r2) → Q (.ref r2) { s with heap := h', toks := tk' }) :
    wpAny (model Challenge.rw_bd0006_01.row.prog w) (ktrTop dp un gd cn cs L a ccd cl outer) (call (.ref 77) [.ref fa, .ref ra]) Q E s := by
  refine lower_con m1 m2 m3 m4 iP iL iR hok.1 hok.2 dp un gd cn cs a ccd cl outer A₀ base h₀ L m s Q E B F X N T hk hd (by omega) ?_
  rintro r tl h' tk' F' N' hne ⟨r2, v2, n2, rfl, hm, i2⟩
  exact h r2 v2 n2 h' tk' F' (fun p hp => N' p ((List.mem_cons.mp hp).elim (fun e => e ▸ List.mem_append.mpr (.inl hm)) fun hp => List.mem_append.mpr (.inr hp))) i2 fun q hq => hne _ hm q hq
local macro_rules | `(tactic| walk_at "call ref") => `(tactic| (k_here; (with_reducible show wpAny _ _ (call (Value.ref 77) _) _ _ _); with_unfolding_all (refine' lower_use ?m1 ?m2 ?m3 ?m4 ?iP ?iL ?iR ?hok ?k1 ?k2 ?k3 ?k4 ?k5 ?kK ?kd ?ku ?_; (case m1 => k_mem); (case m2 => k_mem); (case m3 => k_mem); (case m4 => k_mem); (case iP => assumption); (case iL => assumption); (case iR => assumption); (case hok => assumption); (case k1 => k_asm); (case k2 => k_asm); (case k3 => k_asm); (case k4 => k_asm); (case k5 => k_asm); (case kK => exact rfl); (case kd => omega); (case ku => omega); k_whole; intro r2' v2' n2' h9 tk9 F9 N9 i2' hne'; (try dsimp only); (try k_fold))))
local macro_rules | `(tactic| k_all) => `(tactic| first | assumption | (refine List.forall_mem_append.mpr ⟨?a, ?b⟩; (case a => k_all); (case b => k_all)))
local macro_rules | `(tactic| walk_at "subscriptTail Name Slice ref ref") => `(tactic| (k_here; (with_reducible show wpAny _ _ (subscriptTail _ (PySem.Expr.Slice (some _) none none _) (Value.ref _) (Value.ref _)) _ _ _); k_dflt (refine' kmk_slice_ints ?F ?N ?l ?p ?q ?i ?m ?c ?_ ?s ?t ?z; (case F => k_asm); (case N => k_asm); (case l => kmk_list); (case p => exact IsPart.int _ _); (case q => exact IsPart.none); (case i => with_reducible assumption); (case m => exact kmk_from (by with_reducible assumption) (by decide)); (case c => exact List.length_drop ..); (case s => with_unfolding_all rfl); (case t => kmk_pure); (case z => (refine kmk_sz (by with_reducible assumption) ?_; rw [sizeLine_eq]; omega))); intro D' ws' h' F' N' l1 hI' hC' hL'; (try simp only [Int.reduceNeg, Int.neg_neg, Int.reduceToNat] at hI' hC' hL'); (try k_lt l1)))
theorem wayOf_len (rs : List Int) (k : Nat) : (wayOf rs k).length ≤ 1 := by
  unfold wayOf
  split <;> simp
theorem waysTo_len (rs : List Int) : ∀ k, (waysTo rs k).length ≤ k
  | 0 => Nat.le_refl _
  | k + 1 => by
    have h1 := waysTo_len rs k
    have h2 := wayOf_len rs k
    rw [waysTo_succ, List.length_append]; omega
theorem powL_ok (n : Nat) : 0 ≤ powL.getD n 0 ∧ powL.getD n 0 < 32 := by
  rw [List.getD_eq_getElem?_getD]
  cases h : powL[n]? with
  | none => exact ⟨Int.le_refl _, by decide⟩
  | some x =>
    have : ∀ x ∈ powL, 0 ≤ x ∧ x < 32 := by decide +kernel
    exact this x (List.mem_of_getElem? h)
theorem xor_ok {x y : Int} (hx : 0 ≤ x ∧ x < 32) (hy : 0 ≤ y ∧ y < 32) : 0 ≤ Builtin.bitXor x y ∧ Builtin.bitXor x y < 32 := by
  obtain ⟨a, rfl⟩ := Int.eq_ofNat_of_zero_le hx.1
  obtain ⟨b, rfl⟩ := Int.eq_ofNat_of_zero_le hy.1
  rw [bitXor_cast]
  have : a ^^^ b < 2 ^ 5 := Nat.xor_lt_two_pow (by omega) (by omega)
  omega
theorem zip_ok : ∀ {l r : List Int}, (∀ x ∈ l, 0 ≤ x ∧ x < 32) → (∀ x ∈ r, 0 ≤ x ∧ x < 32) → ∀ x ∈ List.zipWith Builtin.bitXor l r, 0 ≤ x ∧ x < 32
  | [], _, _, _ => by intro x hx; cases hx
  | _ :: _, [], _, _ => by intro x hx; cases hx
  | a :: l, b :: r, hl, hr => by
    intro x hx
    rw [List.zipWith_cons_cons] at hx
    rcases List.mem_cons.mp hx with rfl | hx
    · exact xor_ok (hl _ (.head _)) (hr _ (.head _))
    · exact zip_ok (fun x hx => hl x (.tail _ hx)) (fun x hx => hr x (.tail _ hx)) x hx
theorem lowI_ok {rs : List Int} (h : RowOk rs) : RowOk (lowI rs) := by
  obtain ⟨h8, hb⟩ := h
  unfold lowI
  split
  · refine ⟨by rw [List.length_append, List.length_drop, h8]; rfl, ?_⟩
    intro x hx
    rcases List.mem_append.mp hx with hx | hx
    · exact hb x (List.mem_of_mem_drop hx)
    · rw [List.mem_singleton.mp hx]; decide
  · refine ⟨?_, ?_⟩
    · rw [List.length_append, List.length_zipWith, List.length_drop, List.length_drop, List.length_map, h8]; rfl
    · intro x hx
      rcases List.mem_append.mp hx with hx | hx
      · refine zip_ok (fun x hx => hb x (List.mem_of_mem_drop hx)) ?_ x hx
        intro y hy
        obtain ⟨k, _, rfl⟩ := List.mem_map.mp (List.mem_of_mem_drop hy)
        exact powL_ok _
      · rw [List.mem_singleton.mp hx]; exact powL_ok _
theorem stage11 {w : World} {mg mb : Str → Option Value} {mean : ExcName → Option Value} {dp un : Nat} {gd : Option (List Code)} {L fa₀ : Addr} {cd : Value} {outer : List Env} {A₀ : Around} {base h₀ : Heap} {u : Str → Option Value} {s : Shared} {Q : Flow → Shared → Prop} {E : Value → Shared → Prop} {rest : List Stmt}
    {o1 o2 o3 : Obj} {i p q : Nat} {tx y1 : Str} {ti t tq tt ta t2 : Tok} {D fa lp ll ya : Addr} {vs vp vl : List Value} {n np : Nat} {ps : List Nat} {rs : List Int}
    (B : Below A₀ base outer h₀) (F : Fr h₀ L s.heap (kstB u [(Str.ofString "place", .int (i : Int) ti), (Str.ofString "spot", .int (p : Int) t), (Str.ofString "other", .int (q : Int) tq), (Str.ofString "turned", .str tx tt), (Str.ofString "told", .str y1 ta), (Str.ofString "row", .ref D), (Str.ofString "field", .ref fa)])) (X : (hd_bd.heap_39 w.params).In h₀)
    (N : News h₀ L s.heap [(ya, W.listOf #[] 0), (L + 1 + 1 + 1, o3), (fa, ({ cls := .type "tuple", data := .seq #[.ref lp, .ref ll] } : Obj)), (ll, W.listOf vl.toArray 0), (lp, W.listOf vp.toArray np), (D, W.listOf vs.toArray n), (L + 1 + 1, o2), (L + 1, o1)]) (T0 : Top hd_bd.view_39 (looseW hd_bd.view_39 []) mean mg mb h₀)
    (iP : IntsAre vp powL) (iL : IntsAre vl logL) (iR : IntsAre vs rs) (hok : RowOk rs) (d3 : o3.data = .cell (some (.ref ya))) (d2 : o2.data = .cell (some (.str (mkT ps) t2))) (h14 : ps.length ≤ 14) (h4 : 4 ≤ ps.length)
    (hya : ∀ a ∈ [L + 1 + 1 + 1, fa, ll, lp, D, L + 1 + 1, L + 1], @LT.lt Nat _ a ya) (hd : dp + 10 < recursionLimit) (hu : un + 80 < cLine) (hE : PassesOwn (model Challenge.rw_bd0006_01.row.prog w) (lawA dp un gd L fa₀ cd outer) (lawEnv L fa₀ cd) E)
    {wm wd : Int} (hw1 : waysTo rs (8 + ps.length + (ps.length + 2) / 3) = [(wm, wd)])
    (h : ∀ (u : Str → Option Value) (tm td : Tok) (T : Addr) (tn wv : Nat) (h' : Heap) (tk : Nat), Fr h₀ L h' (kstB u [(Str.ofString "place", .int (i : Int) ti), (Str.ofString "spot", .int (p : Int) t), (Str.ofString "other", .int (q : Int) tq), (Str.ofString "turned", .str tx tt), (Str.ofString "told", .str y1 ta)]) →
      News h₀ L h' [(T, ({ cls := .type "tuple", data := .seq #[.int wm tm, .int wd td] tn } : Obj)), (ya, W.listOf #[.ref T] wv), (L + 1 + 1 + 1, o3), (L + 1 + 1, o2), (L + 1, o1)] → wpAny (model Challenge.rw_bd0006_01.row.prog w) (lawA dp un gd L fa₀ cd outer) (execs rest (lawEnv L fa₀ cd)) Q E { s with heap := h', toks := tk }) :
    wpAny (model Challenge.rw_bd0006_01.row.prog w) (lawA dp un gd L fa₀ cd outer) (execs (lawSt 13 :: rest) (lawEnv L fa₀ cd)) Q E s := by
  have hk : (hd_bd.heap_39 w.params).In h₀ → True := fun _ => trivial
  revert hk
  k_fill
  intro _
  have hlen : (mkT ps).length = ps.length := mkT_length ps
  conv in lawSt 13 => whnf
  walk1
  with_unfolding_all refine' For_invVF F ?k1 ?k2 ?_ (hE := hE)
  case k1 => exact rfl
  case k2 => exact rfl
  iterate 31 (first | (k_unfold; (try dsimp only)) | walk1 | (dsimp only; walk1))
  (rename IsRange _ _ _ _ _ _ _ _ => hR)
  (rename Fr h₀ L _ _ => fE)
  (rename News h₀ L _ _ => nE)
  have eb : (8 : Int) + ((mkT ps).length : Int) + (((mkT ps).length : Int) + 2).fdiv 3 = ((8 + ps.length + (ps.length + 2) / 3 : Nat) : Int) := by
    rw [hlen]
    have : ((ps.length : Int) + 2).fdiv 3 = (((ps.length + 2) / 3 : Nat) : Int) := fdiv_cast (ps.length + 2) 3
    rw [this]; omega
  rw [eb] at hR
  refine kd_range (σ := WayS) (n := 8 + ps.length + (ps.length + 2) / 3) (fun c => [(ya, W.listOf c.ws.toArray c.wv)]) [(L + 1 + 1 + 1, o3), (fa, ({ cls := .type "tuple", data := .seq #[.ref lp, .ref ll] } : Obj)), (ll, W.listOf vl.toArray 0), (lp, W.listOf vp.toArray np), (D, W.listOf vs.toArray n), (L + 1 + 1, o2), (L + 1, o1)]
    (fun c => [(Str.ofString "row", .ref c.r)]) (fun nw c => (c.r, W.listOf c.rv.toArray c.rn) ∈ nw ∧ IntsAre c.rv c.rs ∧ WaysIn nw c.ws c.wl) [] (fun pre c => c.rs = rowAt rs pre.length ∧ c.wl = waysTo rs pre.length ∧ RowOk c.rs) [ya, L + 1 + 1 + 1, fa, ll, lp, D, L + 1 + 1, L + 1]
    ⟨D, vs, n, [], 0, rs, []⟩ rfl hR ?ksm ?ksz fE nE ?kn (fun _ => rfl) ?kf ?kk ?kp ?_ ?_
  case ksm => exact small_one (by omega) (by omega) (by omega) (by omega)
  case ksz => rw [rangeSize_nat]; omega
  case kn => kst_inAny
  case kf => exact ⟨.tail _ (.tail _ (.tail _ (.tail _ (.head _)))), iR, .nil⟩
  case kk => kst_all
  case kp => exact ⟨rfl, rfl, hok⟩
  · clear fE nE hR
    rintro ⟨r, rv, rn, ws, wv, rw', wl⟩ tl pre k tk0 u h9 tk9 own hk1 hk2 hsep hoff ⟨hmr, hir, hws⟩ ⟨hrow, hway, hok'⟩ F9 N9
    dsimp only at hmr hir hws hrow hway hok' F9 N9
    simp only [List.cons_append, List.nil_append] at N9
    have hoffy : ∀ p ∈ tl ++ own, p.1 ≠ ya := hoff.ne (.head _)
    have hry : @Ne Nat r ya := by
      rcases List.mem_append.mp hmr with hm | hm
      · have h9 : ∀ a ∈ [L + 1 + 1 + 1, fa, ll, lp, D, L + 1 + 1, L + 1], @Ne Nat a ya := fun a ha => Nat.ne_of_lt (hya a ha)
        exact h9 r (List.mem_map_of_mem (f := Prod.fst) hm)
      · exact hsep.three _ hm ya (.head _)
    have N10 : News h₀ L h9 ((r, W.listOf rv.toArray rn) :: (ya, W.listOf ws.toArray wv) :: (L + 1 + 1 + 1, o3) :: (fa, ({ cls := .type "tuple", data := .seq #[.ref lp, .ref ll] } : Obj)) :: (ll, W.listOf vl.toArray 0) :: (lp, W.listOf vp.toArray np) :: (D, W.listOf vs.toArray n) :: (L + 1 + 1, o2) :: (L + 1, o1) :: (tl ++ own)) := by
      intro p hp
      rcases List.mem_cons.mp hp with rfl | hp
      · refine N9 _ (.tail _ ?_)
        rcases List.mem_append.mp hmr with hm | hm
        · revert hm
          generalize (r, W.listOf rv.toArray rn) = z
          intro hm
          exact List.mem_append.mpr (Or.inl hm : z ∈ [(L + 1 + 1 + 1, o3), (fa, ({ cls := .type "tuple", data := .seq #[.ref lp, .ref ll] } : Obj)), (ll, W.listOf vl.toArray 0), (lp, W.listOf vp.toArray np), (D, W.listOf vs.toArray n), (L + 1 + 1, o2), (L + 1, o1)] ∨ z ∈ tl ++ own)
        · exact .tail _ (.tail _ (.tail _ (.tail _ (.tail _ (.tail _ (.tail _ (List.mem_append.mpr (.inl hm))))))))
      · exact N9 p hp
    have hl8 := hok'.1
    have hb0 : 0 < rw'.length := by omega
    have hyy := hya
    simp only [List.forall_mem_cons, List.not_mem_nil, false_implies, implies_true, and_true] at hyy
    clear N9
    try k_fold
    iterate 30 (first | (k_unfold; (try dsimp only)) | walk1 | (dsimp only; walk1))
    refine ite_cases (fun hz => ?_) (fun hz => ?_)
    · repeat' (first | (k_unfold; (try dsimp only)) | walk1 | (dsimp only; walk1))
      rename_i hT t1 T h8 f8 n8 l8
      have l9 : ∀ p ∈ tl ++ own, @LT.lt Nat _ p.1 T := kst_ltOf l8.2.2.2.2.2.2.2.2.2.2.2
      have hsz : ws.toArray.size ≤ sizeLine := by
        have e1 := hws.len
        have e2 := waysTo_len rs pre.length
        rw [sizeLine_eq, List.size_toArray, e1, hway]; omega
      have eT : @Ne Nat T ya := by omega
      refine append_K f8 n8 (.tail ?u1 (.tail ?u2 (.tail ?u3 (.tail ?u4 (.head ?u5))))) ?ap hsz
      case u1 => exact eT
      case u2 => show @Ne Nat _ _; omega
      case u3 => show @Ne Nat _ _; omega
      case u4 => exact hry
      case u5 =>
        simp only [List.forall_mem_cons]
        refine ⟨?_, ?_, ?_, ?_, ?_, ?_, ?_, hoffy⟩ <;> (show @Ne Nat _ _; omega)
      case ap =>
        intro h7 f7 n7
        rw [List.push_toArray] at n7
        repeat' (first | (k_unfold; (try dsimp only)) | walk1 | (dsimp only; walk1))
        refine lower_use (lp := lp) (ll := ll) (vp := vp) (vl := vl) (np := np) (nl := 0) (vr := rv) (nr := rn) (rs := rw') ?m1 ?m2 ?m3 ?m4 iP iL hir hok' B f7 X n7 T0 rfl (by omega) (by omega) ?lo
        case m1 => (repeat (first | exact List.Mem.head _ | refine List.Mem.tail _ ?_))
        case m2 => (repeat (first | exact List.Mem.head _ | refine List.Mem.tail _ ?_))
        case m3 => (repeat (first | exact List.Mem.head _ | refine List.Mem.tail _ ?_))
        case m4 => (repeat (first | exact List.Mem.head _ | refine List.Mem.tail _ ?_))
        case lo =>
          intro r2 v2 n2 h6 tk6 f6 n6 i6 ne6
          dsimp only
          repeat' (first | (k_unfold; (try dsimp only)) | walk1 | (dsimp only; walk1))
          (rename Fr h₀ L _ _ => f5)
          (rename News h₀ L _ _ => n5)
          try show InvEndG _ _ _ _ _ _
          refine kd_end (⟨r2, v2, n2, ws ++ [.ref T], wv + 1, lowI rw', wl ++ [(k, rw'.getD 0 0)]⟩ : WayS) [(T, ({ cls := .type "tuple", data := .seq #[.int k tk0, .int (rw'.getD 0 0) t1] 0 } : Obj)), (r2, W.listOf v2.toArray n2)] hsep f5 n5 ?hn ?ho rfl ?hb ?hw ?hk ?hr ?hf ?hp
          case hn => kd_inAll
          case ho => (intro p hp; kst_mem)
          case hk => kst_all
          case hr =>
            intro zz z1 z2 z3
            have hz : zz ≠ Str.ofString "row" := z2 _ (.head _)
            (try dsimp only)
            rw [if_neg hz, if_neg z1]
            exact if_neg hz
          case hb =>
            intro q hq b hb
            rcases List.mem_cons.mp hq with rfl | hq
            · have e9 : ∀ b ∈ [ya, L + 1 + 1 + 1, fa, ll, lp, D, L + 1 + 1, L + 1], @Ne Nat b T := by
                simp only [List.forall_mem_cons]
                refine ⟨?_, ?_, ?_, ?_, ?_, ?_, ?_, ?_, List.forall_mem_nil _⟩ <;> (show @Ne Nat _ _; omega)
              exact e9 b hb
            · obtain rfl := List.mem_singleton.mp hq
              have e9 : ∀ b ∈ [ya, L + 1 + 1 + 1, fa, ll, lp, D, L + 1 + 1, L + 1], @Ne Nat b r2 := by
                simp only [List.forall_mem_cons]
                refine ⟨?_, ?_, ?_, ?_, ?_, ?_, ?_, ?_, List.forall_mem_nil _⟩ <;> (refine' ne6 (_, _) ?h; (case h => (repeat (first | exact List.Mem.head _ | refine List.Mem.tail _ ?_))))
              exact e9 b hb
          case hw =>
            intro q hq p hp
            rcases List.mem_cons.mp hq with rfl | hq
            · exact Nat.ne_of_lt (l9 p (List.mem_append.mpr (.inr hp)))
            · obtain rfl := List.mem_singleton.mp hq
              exact ne6 p (by kst_mem)
          case hf =>
            refine ⟨kd_new (.tail _ (.head _)), i6, WaysIn.snoc (hws.mono kd_sub) (kd_new (.head _))⟩
          case hp =>
            rw [List.length_append]
            refine ⟨?_, ?_, lowI_ok hok'⟩
            · show _ = lowI (rowAt rs pre.length)
              rw [hrow]
            · show _ = waysTo rs (pre.length + 1); rw [waysTo_succ]
              have hz' := of_decide_eq_true hz
              rw [wayOf, ← hrow, ← hway, if_pos hz', hk1, Int.zero_add]
    · repeat' (first | (k_unfold; (try dsimp only)) | walk1 | (dsimp only; walk1))
      (rename Fr h₀ L _ _ => f7)
      (rename News h₀ L _ _ => n7)
      refine lower_use (lp := lp) (ll := ll) (vp := vp) (vl := vl) (np := np) (nl := 0) (vr := rv) (nr := rn) (rs := rw') ?m1b ?m2b ?m3b ?m4b iP iL hir hok' B f7 X n7 T0 rfl (by omega) (by omega) ?lob
      case m1b => (repeat (first | exact List.Mem.head _ | refine List.Mem.tail _ ?_))
      case m2b => (repeat (first | exact List.Mem.head _ | refine List.Mem.tail _ ?_))
      case m3b => (repeat (first | exact List.Mem.head _ | refine List.Mem.tail _ ?_))
      case m4b => (repeat (first | exact List.Mem.head _ | refine List.Mem.tail _ ?_))
      case lob =>
        intro r2 v2 n2 h6 tk6 f6 n6 i6 ne6
        dsimp only
        repeat' (first | (k_unfold; (try dsimp only)) | walk1 | (dsimp only; walk1))
        (rename Fr h₀ L _ _ => f5)
        (rename News h₀ L _ _ => n5)
        try show InvEndG _ _ _ _ _ _
        refine kd_end (⟨r2, v2, n2, ws, wv, lowI rw', wl⟩ : WayS) [(r2, W.listOf v2.toArray n2)] hsep f5 n5 ?hnb ?hob rfl ?hbb ?hwb ?hkb ?hrb ?hfb ?hpb
        case hnb => kd_inAll
        case hob => (intro p hp; kst_mem)
        case hkb => kst_all
        case hrb =>
          intro zz z1 z2 z3
          have hz : zz ≠ Str.ofString "row" := z2 _ (.head _)
          (try dsimp only)
          rw [if_neg hz, if_neg z1]
          exact if_neg hz
        case hbb =>
          intro q hq b hb
          obtain rfl := List.mem_singleton.mp hq
          have e9 : ∀ b ∈ [ya, L + 1 + 1 + 1, fa, ll, lp, D, L + 1 + 1, L + 1], @Ne Nat b r2 := by
            simp only [List.forall_mem_cons]
            refine ⟨?_, ?_, ?_, ?_, ?_, ?_, ?_, ?_, List.forall_mem_nil _⟩ <;> (refine' ne6 (_, _) ?h; (case h => (repeat (first | exact List.Mem.head _ | refine List.Mem.tail _ ?_))))
          exact e9 b hb
        case hwb =>
          intro q hq p hp
          obtain rfl := List.mem_singleton.mp hq
          exact ne6 p (by kst_mem)
        case hfb =>
          refine ⟨kd_new (.head _), i6, hws.mono kd_sub⟩
        case hpb =>
          rw [List.length_append]
          refine ⟨?_, ?_, lowI_ok hok'⟩
          · show _ = lowI (rowAt rs pre.length)
            rw [hrow]
          · show _ = waysTo rs (pre.length + 1); rw [waysTo_succ]
            have hz' := fun e => hz (decide_eq_true e)
            rw [wayOf, ← hrow, ← hway, if_neg hz', List.append_nil]
  · rintro ⟨r, rv, rn, ws, wv, rw', wl⟩ tl u9 h9 tk9 hoff ⟨hmr, hir, hws⟩ ⟨hrow, hway, hok'⟩ F9 N9
    dsimp only at hmr hir hws hrow hway hok' F9 N9
    rw [rangeKs_length, hw1] at hway
    subst hway
    cases hws with
    | @cons T9 _ _ ta9 tb9 n9 _ _ hT hn =>
    cases hn
    have f8 := fr_kst [(Str.ofString "place", .int (i : Int) ti), (Str.ofString "spot", .int (p : Int) t), (Str.ofString "other", .int (q : Int) tq), (Str.ofString "turned", .str tx tt), (Str.ofString "told", .str y1 ta)] (by kst_all) F9
    refine h _ ta9 tb9 T9 n9 wv _ _ f8 ?_
    intro z hz
    simp only [List.mem_cons, List.not_mem_nil, or_false] at hz
    rcases hz with rfl | rfl | rfl | rfl | rfl
    · exact N9 _ (.tail _ hT)
    all_goals exact N9 _ (by (repeat (first | exact List.Mem.head _ | refine List.Mem.tail _ ?_)))
end
end Mine
theorem Mine.rst_BdS11 : True ∧ True := by
  w_top off
  (try walk1) <;> trivial
namespace Mine
section
set_option maxHeartbeats 2000000
theorem stage12 {w : World} {mg mb : Str → Option Value} {mean : ExcName → Option Value} {dp un : Nat} {gd : Option (List Code)} {L fa₀ : Addr} {cd : Value} {outer : List Env} {A₀ : Around} {base h₀ : Heap} {u : Str → Option Value} {s : Shared} {Q : Flow → Shared → Prop} {E : Value → Shared → Prop} {rest : List Stmt}
    {o1 o2 o3 : Obj} {i p q : Nat} {tx y1 : Str} {ti t tq tt ta t2 tm td : Tok} {T9 ya : Addr} {tn wv : Nat} {ps : List Nat} {wm wd : Int}
    (B : Below A₀ base outer h₀) (F : Fr h₀ L s.heap (kstB u [(Str.ofString "place", .int (i : Int) ti), (Str.ofString "spot", .int (p : Int) t), (Str.ofString "other", .int (q : Int) tq), (Str.ofString "turned", .str tx tt), (Str.ofString "told", .str y1 ta)])) (X : (hd_bd.heap_39 w.params).In h₀)
    (N : News h₀ L s.heap [(T9, ({ cls := .type "tuple", data := .seq #[.int wm tm, .int wd td] tn } : Obj)), (ya, W.listOf #[.ref T9] wv), (L + 1 + 1 + 1, o3), (L + 1 + 1, o2), (L + 1, o1)]) (T : Top hd_bd.view_39 (looseW hd_bd.view_39 []) mean mg mb h₀)
    (d3 : o3.data = .cell (some (.ref ya))) (d2 : o2.data = .cell (some (.str (mkT ps) t2))) (h14 : ps.length ≤ 14) (h4 : 4 ≤ ps.length) (hi : i < ps.length) (hp : p < 95) (hq : q < 95)
    (hwm : wm = 8 + (ps.length : Int) - 1 - i + (((ps.length + 2) / 3 : Nat) - (i / 3 : Nat))) (hwd : wd = ((p % 32 ^^^ q % 32 : Nat) : Int)) (hd : dp + 10 < recursionLimit) (hu : un + 80 < cLine)
    (h : ∀ (u : Str → Option Value) (h' : Heap) (tk : Nat), Fr h₀ L h' (kstB u [(Str.ofString "place", .int (i : Int) ti), (Str.ofString "spot", .int (p : Int) t), (Str.ofString "other", .int (q : Int) tq), (Str.ofString "turned", .str tx tt), (Str.ofString "told", .str y1 ta)]) →
      News h₀ L h' [(T9, ({ cls := .type "tuple", data := .seq #[.int wm tm, .int wd td] tn } : Obj)), (ya, W.listOf #[.ref T9] wv), (L + 1 + 1 + 1, o3), (L + 1 + 1, o2), (L + 1, o1)] → wpAny (model Challenge.rw_bd0006_01.row.prog w) (lawA dp un gd L fa₀ cd outer) (execs rest (lawEnv L fa₀ cd)) Q E { s with heap := h', toks := tk }) :
    wpAny (model Challenge.rw_bd0006_01.row.prog w) (lawA dp un gd L fa₀ cd outer) (execs (lawSt 14 :: lawSt 15 :: rest) (lawEnv L fa₀ cd)) Q E s := by
  have hk : (hd_bd.heap_39 w.params).In h₀ → True := fun _ => trivial
  revert hk
  k_fill
  intro _
  have hlen : (mkT ps).length = ps.length := mkT_length ps
  conv in lawSt 14 => whnf
  conv in lawSt 15 => whnf
  repeat' ((fail_if_success (with_reducible show wpAny _ _ (execs rest _) _ _ _)); (first | (k_unfold; (try dsimp only)) | walk1 | (dsimp only; walk1)))
  · (rename Fr h₀ L _ _ => fE)
    (rename News h₀ L _ _ => nE)
    exact h _ _ _ (fr_kst [(Str.ofString "place", .int (i : Int) ti), (Str.ofString "spot", .int (p : Int) t), (Str.ofString "other", .int (q : Int) tq), (Str.ofString "turned", .str tx tt), (Str.ofString "told", .str y1 ta)] (by kst_all) fE) (kst_newsOf nE (by kst_inAny))
  · exfalso
    (rename (_ && _) = false => hf)
    have e1 : ((8 : Int) + ((mkT ps).length : Int) - 1 - (i : Int) + ((((mkT ps).length : Int) + 2).fdiv 3 - ((i : Int)).fdiv 3)) = wm := by
      have e2 : ((ps.length : Int) + 2).fdiv 3 = (((ps.length + 2) / 3 : Nat) : Int) := fdiv_cast (ps.length + 2) 3
      have e3 : (i : Int).fdiv 3 = ((i / 3 : Nat) : Int) := fdiv_cast i 3
      rw [hlen, hwm, e2, e3]
    have e4 : Builtin.bitXor ((p : Int).fmod 32) ((q : Int).fmod 32) = wd := by
      have e2 : (p : Int).fmod 32 = ((p % 32 : Nat) : Int) := fmod_cast p 32
      have e3 : (q : Int).fmod 32 = ((q % 32 : Nat) : Int) := fmod_cast q 32
      rw [e2, e3, bitXor_cast, hwd]
    rw [e1, e4, beq_self_eq_true, beq_self_eq_true] at hf
    cases hf
end
end Mine
theorem Mine.rst_BdS12 : True ∧ True := by
  w_top off
  (try walk1) <;> trivial
namespace Mine
section
set_option maxHeartbeats 2000000
theorem places_one : ∀ n : Nat, n < 15 → ∀ i : Nat, i < n → List.foldl (fun (l' : List Int) (k' : Int) => if (8 : Int) + (n : Int) - 1 - k' + ((n : Int) + 2).fdiv 3 - k'.fdiv 3 = 8 + (n : Int) - 1 - (i : Int) + (((n + 2) / 3 : Nat) - (i / 3 : Nat)) then l' ++ [k'] else l') [] (rangeKs 0 n) = [(i : Int)] := by decide +kernel
theorem stage13 {w : World} {mg mb : Str → Option Value} {mean : ExcName → Option Value} {dp un : Nat} {gd : Option (List Code)} {L fa₀ : Addr} {cd : Value} {outer : List Env} {A₀ : Around} {base h₀ : Heap} {u : Str → Option Value} {s : Shared} {Q : Flow → Shared → Prop} {E : Value → Shared → Prop} {rest : List Stmt}
    {o1 o2 o3 : Obj} {i p q : Nat} {tx y1 : Str} {ti t tq tt ta t2 tm td : Tok} {T9 ya : Addr} {tn wv : Nat} {ps : List Nat} {wm wd : Int}
    (B : Below A₀ base outer h₀) (F : Fr h₀ L s.heap (kstB u [(Str.ofString "place", .int (i : Int) ti), (Str.ofString "spot", .int (p : Int) t), (Str.ofString "other", .int (q : Int) tq), (Str.ofString "turned", .str tx tt), (Str.ofString "told", .str y1 ta)])) (X : (hd_bd.heap_39 w.params).In h₀)
    (N : News h₀ L s.heap [(T9, ({ cls := .type "tuple", data := .seq #[.int wm tm, .int wd td] tn } : Obj)), (ya, W.listOf #[.ref T9] wv), (L + 1 + 1 + 1, o3), (L + 1 + 1, o2), (L + 1, o1)]) (T : Top hd_bd.view_39 (looseW hd_bd.view_39 []) mean mg mb h₀)
    (d3 : o3.data = .cell (some (.ref ya))) (d2 : o2.data = .cell (some (.str (mkT ps) t2))) (h14 : ps.length ≤ 14) (h4 : 4 ≤ ps.length) (hi : i < ps.length) (hp : p < 95) (hq : q < 95)
    (hwm : wm = 8 + (ps.length : Int) - 1 - i + (((ps.length + 2) / 3 : Nat) - (i / 3 : Nat))) (hd : dp + 10 < recursionLimit) (hu : un + 80 < cLine)
    (h : ∀ (u : Str → Option Value) (h' : Heap) (tk : Nat) (P : Addr) (pv : List Value) (pn : Nat), Fr h₀ L h' (kstB u [(Str.ofString "place", .int (i : Int) ti), (Str.ofString "spot", .int (p : Int) t), (Str.ofString "other", .int (q : Int) tq), (Str.ofString "turned", .str tx tt), (Str.ofString "told", .str y1 ta), (Str.ofString "places", .ref P)]) →
      News h₀ L h' [(P, W.listOf pv.toArray pn), (T9, ({ cls := .type "tuple", data := .seq #[.int wm tm, .int wd td] tn } : Obj)), (ya, W.listOf #[.ref T9] wv), (L + 1 + 1 + 1, o3), (L + 1 + 1, o2), (L + 1, o1)] → IntsAre pv [(i : Int)] → wpAny (model Challenge.rw_bd0006_01.row.prog w) (lawA dp un gd L fa₀ cd outer) (execs rest (lawEnv L fa₀ cd)) Q E { s with heap := h', toks := tk }) :
    wpAny (model Challenge.rw_bd0006_01.row.prog w) (lawA dp un gd L fa₀ cd outer) (execs (lawSt 16 :: rest) (lawEnv L fa₀ cd)) Q E s := by
  have hk : (hd_bd.heap_39 w.params).In h₀ → True := fun _ => trivial
  revert hk
  k_fill
  intro _
  have hlen : (mkT ps).length = ps.length := mkT_length ps
  conv in lawSt 16 => whnf
  repeat' ((fail_if_success (with_reducible show wpAny _ _ (execs rest _) _ _ _)); (first | (k_unfold; (try dsimp only)) | walk1 | (dsimp only; walk1)))
  (rename Fr h₀ L _ _ => fE)
  (rename News h₀ L _ _ => nE)
  (rename IntsAre _ _ => iE)
  have e1 := places_one ps.length (by omega) i hi
  rw [hlen, hwm, Int.sub_zero, Int.toNat_natCast, e1] at iE
  exact h _ _ _ _ _ _ (fr_kst [(Str.ofString "place", .int (i : Int) ti), (Str.ofString "spot", .int (p : Int) t), (Str.ofString "other", .int (q : Int) tq), (Str.ofString "turned", .str tx tt), (Str.ofString "told", .str y1 ta), (Str.ofString "places", .ref _)] (by kst_all) fE) nE iE
end
end Mine
theorem Mine.rst_BdS13 : True ∧ True := by
  w_top off
  (try walk1) <;> trivial
namespace Mine
section
set_option maxHeartbeats 2000000
theorem add_checksum_use {w : World} {mg mb : Str → Option Value} {mean : ExcName → Option Value} {news : List (Addr × Obj)} {ps : List Nat} {td : Tok}
    {dp un : Nat} {gd : Option (List Code)} {cn : Str} {cs : Scope} {a : Addr} {ccd : Value} {cl : List (Str × Addr)} {outer : List Env} {A₀ : Around} {base h₀ : Heap} {L : Addr} {m : Str → Option Value} {s : Shared} {Q E : Value → Shared → Prop}
    (B : Below A₀ base outer h₀) (F : Fr h₀ L s.heap m) (X : (hd_bd.heap_39 w.params).In h₀) (N : News h₀ L s.heap news) (T : Top hd_bd.view_39 (looseW hd_bd.view_39 []) mean mg mb h₀) (hk : cs.kind = .function)
    (hd : dp + 4 < recursionLimit) (hu : un + 32 < cLine) (hps : ∀ p ∈ ps, p < 95 ∧ p ≠ 91) (hl : ps.length ≤ 14) {tx : Str} (he : tx = mkT ps)
    (h : ∀ t h' tk', Fr h₀ L h' m → News h₀ L h' news → Q (.str (mkT ps ++ Str.ofString "#" ++ chk ps) t) { s with heap := h', toks := tk' }) :
    wpAny (model Challenge.rw_bd0006_01.row.prog w) (ktrTop dp un gd cn cs L a ccd cl outer) (call (.ref 58) [.str tx td]) Q E s := by
  subst he
  refine add_checksum_con ps (fun p hp => (hps p hp).1) hps hl td dp un gd cn cs a ccd cl outer A₀ base h₀ L m s Q E B F X N T hk hd (by omega) ?_
  rintro r tl h' tk' F' N' _ ⟨t, rfl⟩
  exact h t h' tk' F' (fun p hp => N' p (List.mem_append.mpr (.inr hp)))
theorem item_cs_eq {prog : Program} {w : World} {A : Around} {E : Value → Shared → Prop} {s : Shared} {value slice : PySem.Expr} {t u : Tok} {j : Int} {p : Nat} {Q : Value → Shared → Prop} (hj : j = (p : Int)) (hp : p < 95)
    (h : Q (.str ⟨#[csL.getD p 0]⟩ s.toks) { s with toks := s.toks + 1 })
    (hs : subscripted slice false (.str csS t) (.int (p : Int) u) = operate [.str csS t, .int (p : Int) u] (getItem (.str csS t) (.int (p : Int) u)) := by with_unfolding_all rfl)
    (ht : ∀ r, letTemporaryGo value (.str csS t) r = pure () := by intro _; with_unfolding_all rfl) :
    wpAny (model prog w) A (subscriptTail value slice (.str csS t) (.int j u)) Q E s := by
  subst hj
  exact item_cs (by omega) (by omega) h hs ht
theorem stage14 {w : World} {mg mb : Str → Option Value} {mean : ExcName → Option Value} {dp un : Nat} {gd : Option (List Code)} {L fa₀ : Addr} {cd : Value} {outer : List Env} {A₀ : Around} {base h₀ : Heap} {u : Str → Option Value} {s : Shared} {Q : Flow → Shared → Prop} {E : Value → Shared → Prop} {rest : List Stmt}
    {o1 o2 o3 : Obj} {i p q : Nat} {ti t tq tt ta t1 t2 tm td : Tok} {T9 ya P : Addr} {tn wv pn : Nat} {ps : List Nat} {wm wd : Int} {pv : List Value}
    (B : Below A₀ base outer h₀) (F : Fr h₀ L s.heap (kstB u [(Str.ofString "place", .int (i : Int) ti), (Str.ofString "spot", .int (p : Int) t), (Str.ofString "other", .int (q : Int) tq), (Str.ofString "turned", .str (mkT (ps.set i q)) tt), (Str.ofString "told", .str (chk ps) ta), (Str.ofString "places", .ref P)])) (X : (hd_bd.heap_39 w.params).In h₀)
    (N : News h₀ L s.heap [(P, W.listOf pv.toArray pn), (T9, ({ cls := .type "tuple", data := .seq #[.int wm tm, .int wd td] tn } : Obj)), (ya, W.listOf #[.ref T9] wv), (L + 1 + 1 + 1, o3), (L + 1 + 1, o2), (L + 1, o1)]) (T : Top hd_bd.view_39 (looseW hd_bd.view_39 []) mean mg mb h₀)
    (d3 : o3.data = .cell (some (.ref ya))) (d2 : o2.data = .cell (some (.str (mkT ps) t2))) (d1 : o1.data = .cell (some (.str csS t1))) (h14 : ps.length ≤ 14) (hi : i < ps.length) (hpi : ps[i]? = some p) (hp : p < 95) (hq : q < 95) (hpq : q / 32 = p / 32)
    (hps : ∀ p ∈ ps, p < 95 ∧ p ≠ 91) (iP : IntsAre pv [(i : Int)]) (hwd : wd = ((p % 32 ^^^ q % 32 : Nat) : Int)) (hd : dp + 10 < recursionLimit) (hu : un + 80 < cLine)
    (h : ∀ (m' : Str → Option Value) (h' : Heap) (tk : Nat), Fr h₀ L h' m' → Q (.ret (.bool true)) { s with heap := h', toks := tk }) :
    wpAny (model Challenge.rw_bd0006_01.row.prog w) (lawA dp un gd L fa₀ cd outer) (execs [lawSt 17, lawSt 18] (lawEnv L fa₀ cd)) Q E s := by
  have hk : (hd_bd.heap_39 w.params).In h₀ → True := fun _ => trivial
  revert hk
  k_fill
  intro _
  have hlen : (mkT ps).length = ps.length := mkT_length ps
  have hlen2 : (mkT (ps.set i q)).length = ps.length := by rw [mkT_length, List.length_set]
  have hlc : (chk ps).length = 8 := chk_length ps
  have hj : (q : Int).fdiv 32 * 32 + Builtin.bitXor ((q : Int).fmod 32) wd = (p : Int) := by
    have e1 : (q : Int).fdiv 32 = ((q / 32 : Nat) : Int) := fdiv_cast q 32
    have e2 : (q : Int).fmod 32 = ((q % 32 : Nat) : Int) := fmod_cast q 32
    rw [e1, e2, hwd, bitXor_cast, Nat.xor_comm (p % 32), ← Nat.xor_assoc, Nat.xor_self, Nat.zero_xor, hpq]
    omega
  have hset : Txt.slice (mkT (ps.set i q)) none (some (i : Int)) ++ (⟨#[csL.getD p 0]⟩ : Str) ++ Txt.slice (mkT (ps.set i q)) (some ((i : Int) + 1)) none = mkT ps := by
    rw [show csL.getD p 0 = csL.getD ((p : Int)).toNat 0 from rfl, set_text (by rw [List.length_set]; exact hi), List.set_set]
    rw [List.getElem?_eq_some_iff] at hpi
    obtain ⟨h1, rfl⟩ := hpi
    rw [List.set_getElem_self]
  conv in lawSt 17 => whnf
  conv in lawSt 18 => whnf
  repeat' ((fail_if_success (with_reducible show wpAny _ _ (subscriptTail _ _ (Value.str csS _) (Value.int _ _)) _ _ _)); (first | (k_unfold; (try dsimp only)) | walk1 | (dsimp only; walk1)))
  refine item_cs_eq hj hp ?_
  repeat' ((fail_if_success (with_reducible show wpAny _ _ (call (Value.ref 58) _) _ _ _)); (first | (k_unfold; (try dsimp only)) | walk1 | (dsimp only; walk1)))
  (rename Fr h₀ L _ _ => fE)
  (rename News h₀ L _ _ => nE)
  refine add_checksum_use B fE X nE T rfl (by omega) (by omega) hps h14 hset ?_
  intro t9 h9 tk9 F9 N9
  dsimp only
  clear fE nE
  repeat' (first | (k_unfold; (try dsimp only)) | walk1 | (dsimp only; walk1))
  have eb : (mkT ps ++ Str.ofString "#" ++ chk ps == mkT ps ++ Str.ofString "#" ++ chk ps) = true := beq_self_eq_true _
  generalize (mkT ps ++ Str.ofString "#" ++ chk ps == mkT ps ++ Str.ofString "#" ++ chk ps) = bb at eb ⊢
  subst eb
  exact h _ _ _ F9
end
end Mine
theorem Mine.rst_BdS14 : True ∧ True := by
  w_top off
  (try walk1) <;> trivial
namespace Mine
section
set_option maxHeartbeats 2000000
def bitG (b : Bool) (g : Nat) : Nat := if b then g else 0
theorem bitG_xor (a b : Bool) (g : Nat) : bitG (a ^^ b) g = bitG a g ^^^ bitG b g := by
  cases a <;> cases b <;> simp [bitG]
theorem and_pow (x k : Nat) (c g : Nat) : (if x &&& 2 ^ k = 0 then c else c ^^^ g) = c ^^^ bitG (x.testBit k) g := by
  cases h : x.testBit k
  · have e : x &&& 2 ^ k = 0 := by
      refine Nat.eq_of_testBit_eq fun j => ?_
      rw [Nat.testBit_and, Nat.testBit_two_pow, Nat.zero_testBit]
      by_cases hj : k = j
      · subst hj; rw [h]; rfl
      · simp [hj]
    rw [if_pos e]; simp [bitG]
  · have e : x &&& 2 ^ k ≠ 0 := by
      intro e
      have := congrArg (fun z => Nat.testBit z k) e
      simp [Nat.testBit_and, h] at this
    rw [if_neg e]; simp [bitG]
/-- pmN as a sum -/
def pmS (c v : Nat) : Nat :=
  ((((((c &&& 34359738367) <<< 5) ^^^ v) ^^^ bitG (c.testBit 35) 1056006543753) ^^^ bitG (c.testBit 36) 730107360018) ^^^ bitG (c.testBit 37) 118834127661) ^^^ bitG (c.testBit 38) 236335490938 ^^^ bitG (c.testBit 39) 430795026429
theorem pmN_sum (c v : Nat) : pmN c v = pmS c v := by
  have h0 := fun a g => and_pow (c / 2 ^ 35) 0 a g
  have h1 := fun a g => and_pow (c / 2 ^ 35) 1 a g
  have h2 := fun a g => and_pow (c / 2 ^ 35) 2 a g
  have h3 := fun a g => and_pow (c / 2 ^ 35) 3 a g
  have h4 := fun a g => and_pow (c / 2 ^ 35) 4 a g
  simp only [Nat.testBit_div_two_pow, show (2 : Nat) ^ 0 = 1 from rfl, show (2 : Nat) ^ 1 = 2 from rfl, show (2 : Nat) ^ 2 = 4 from rfl, show (2 : Nat) ^ 3 = 8 from rfl, show (2 : Nat) ^ 4 = 16 from rfl] at h0 h1 h2 h3 h4
  unfold pmN pmS
  dsimp only
  rw [h4, h3, h2, h1, h0, ← Nat.shiftLeft_eq]
theorem pmS_lin (c e v f : Nat) : pmS (c ^^^ e) (v ^^^ f) = pmS c v ^^^ pmS e f := by
  unfold pmS
  simp only [Nat.testBit_xor, bitG_xor, Nat.and_xor_distrib_right, Nat.shiftLeft_xor_distrib]
  ac_rfl
theorem pmN_lin (c e v f : Nat) : pmN (c ^^^ e) (v ^^^ f) = pmN c v ^^^ pmN e f := by
  rw [pmN_sum, pmN_sum, pmN_sum, pmS_lin]
def pI (n x : Nat) : Nat := Nat.repeat (fun y => pmN y 0) n x
theorem pI_add (a b x : Nat) : pI (a + b) x = pI a (pI b x) := by
  induction a with
  | zero => rw [Nat.zero_add]; rfl
  | succ a ih => rw [Nat.succ_add]; show pmN (pI (a + b) x) 0 = pmN (pI a (pI b x)) 0; rw [ih]
theorem pmN_zero (v : Nat) : pmN 0 v = v := by
  rw [pmN_sum]; simp [pmS, bitG]
theorem pmN_first (c v d : Nat) : pmN c (v ^^^ d) = pmN c v ^^^ d := by
  have := pmN_lin c 0 v d
  rwa [Nat.xor_zero, pmN_zero] at this
theorem pmN_next (c e v : Nat) : pmN (c ^^^ e) v = pmN c v ^^^ pmN e 0 := by
  have := pmN_lin c e v 0
  rwa [Nat.xor_zero] at this
theorem pm8_next (c e : Nat) : pm8 (c ^^^ e) = pm8 c ^^^ pI 8 e := by
  unfold pm8
  simp only [pmN_next]
  rfl
/-- one more sign, equal in both -/
theorem step_next (c k n p e : Nat) (hn : n < 3) : ckStep (c ^^^ e, k, n) p = ((ckStep (c, k, n) p).1 ^^^ pI (1 + (n + 1) / 3) e, (ckStep (c, k, n) p).2) ∧ (ckStep (c, k, n) p).2.2 = (n + 1) % 3 := by
  unfold ckStep
  dsimp only
  rw [pmN_next]
  by_cases h : n + 1 = 3
  · rw [if_pos h, if_pos h, pmN_next, h]
    exact ⟨rfl, rfl⟩
  · rw [if_neg h, if_neg h, show (n + 1) / 3 = 0 by omega, show (n + 1) % 3 = n + 1 by omega]
    exact ⟨rfl, rfl⟩
theorem fold_next : ∀ (rs : List Nat) (c k n e : Nat), n < 3 → rs.foldl ckStep (c ^^^ e, k, n) = ((rs.foldl ckStep (c, k, n)).1 ^^^ pI (rs.length + (n + rs.length) / 3) e, (rs.foldl ckStep (c, k, n)).2) ∧ (rs.foldl ckStep (c, k, n)).2.2 = (n + rs.length) % 3
  | [], c, k, n, e, hn => by
    have h0 : (n + ([] : List Nat).length) / 3 = 0 := by simp; omega
    rw [h0]
    exact ⟨rfl, by simp; omega⟩
  | r :: rs, c, k, n, e, hn => by
    obtain ⟨h1, h2⟩ := step_next c k n r e hn
    rw [List.foldl_cons, List.foldl_cons, h1]
    generalize ckStep (c, k, n) r = st at h2 ⊢
    obtain ⟨c1, k1, n1⟩ := st
    dsimp only at h2 ⊢
    obtain ⟨h3, h4⟩ := fold_next rs c1 k1 n1 (pI (1 + (n + 1) / 3) e) (by omega)
    rw [h3, h4, ← pI_add]
    refine ⟨?_, ?_⟩
    · rw [show rs.length + (n1 + rs.length) / 3 + (1 + (n + 1) / 3) = (r :: rs).length + (n + (r :: rs).length) / 3 by simp only [List.length_cons]; omega]
    · simp only [List.length_cons]; omega
/-- the sign in which the two texts differ -/
theorem step_first (c k n p q : Nat) (hpq : q / 32 = p / 32) (hn : n < 3) : ckStep (c, k, n) q = ((ckStep (c, k, n) p).1 ^^^ pI ((n + 1) / 3) ((p &&& 31) ^^^ (q &&& 31)), (ckStep (c, k, n) p).2) ∧ (ckStep (c, k, n) p).2.2 = (n + 1) % 3 := by
  unfold ckStep
  dsimp only
  have e : pmN c (q &&& 31) = pmN c (p &&& 31) ^^^ ((p &&& 31) ^^^ (q &&& 31)) := by
    rw [← pmN_first, ← Nat.xor_assoc, Nat.xor_self, Nat.zero_xor]
  rw [e, hpq]
  by_cases h : n + 1 = 3
  · rw [if_pos h, if_pos h, pmN_next, h]
    exact ⟨rfl, rfl⟩
  · rw [if_neg h, if_neg h, show (n + 1) / 3 = 0 by omega, show (n + 1) % 3 = n + 1 by omega]
    exact ⟨rfl, rfl⟩
theorem fold_count : ∀ (rs : List Nat) (c k n : Nat), n < 3 → (rs.foldl ckStep (c, k, n)).2.2 = (n + rs.length) % 3 := fun rs c k n hn => (fold_next rs c k n 0 hn).2
theorem flush_next (c k n e : Nat) (hn : n < 3) : ckFlush (c ^^^ e, k, n) = ckFlush (c, k, n) ^^^ pI ((n + 2) / 3) e := by
  unfold ckFlush
  dsimp only
  by_cases h : n = 0
  · rw [if_pos h, if_pos h, h]; rfl
  · rw [if_neg h, if_neg h, pmN_next, show (n + 2) / 3 = 1 by omega]; rfl
/-- how far the difference has gone -/
def gone (l i : Nat) : Nat := 8 + (l - 1 - i) + ((l + 2) / 3 - i / 3)
theorem num_diff (ps : List Nat) (i p q : Nat) (hp : ps[i]? = some p) (hpq : q / 32 = p / 32) : ckNum (ps.set i q) = ckNum ps ^^^ pI (gone ps.length i) ((p &&& 31) ^^^ (q &&& 31)) := by
  obtain ⟨hi, hpe⟩ := List.getElem?_eq_some_iff.mp hp
  have e1 : ps = ps.take i ++ p :: ps.drop (i + 1) := by
    rw [← hpe, List.getElem_cons_drop, List.take_append_drop]
  have e2 : ps.set i q = ps.take i ++ q :: ps.drop (i + 1) := by
    rw [List.set_eq_take_append_cons_drop, if_pos hi]
  have hl1 : (ps.take i).length = i := by rw [List.length_take]; omega
  have hl2 : (ps.drop (i + 1)).length = ps.length - 1 - i := by rw [List.length_drop]; omega
  unfold ckNum ckFold
  rw [e2]
  conv => rhs; lhs; rw [e1]
  rw [List.foldl_append, List.foldl_append, List.foldl_cons, List.foldl_cons]
  have hc := fold_count (ps.take i) 1 0 0 (by omega)
  rw [hl1, Nat.zero_add] at hc
  generalize List.foldl ckStep (1, 0, 0) (ps.take i) = st at hc ⊢
  obtain ⟨c, k, n⟩ := st
  dsimp only at hc
  obtain ⟨h1, h2⟩ := step_first c k n p q hpq (by omega)
  rw [h1]
  generalize ckStep (c, k, n) p = st at h2 ⊢
  obtain ⟨c1, k1, n1⟩ := st
  dsimp only at h2 ⊢
  obtain ⟨h3, h4⟩ := fold_next (ps.drop (i + 1)) c1 k1 n1 (pI ((n + 1) / 3) ((p &&& 31) ^^^ (q &&& 31))) (by omega)
  rw [h3]
  generalize List.foldl ckStep (c1, k1, n1) (ps.drop (i + 1)) = st at h4 ⊢
  obtain ⟨c2, k2, n2⟩ := st
  dsimp only at h4 ⊢
  rw [flush_next _ _ _ _ (by omega), pm8_next, ← pI_add, ← pI_add, ← pI_add, hl2, Nat.xor_assoc, Nat.xor_comm (pI _ _) 1, ← Nat.xor_assoc]
  rw [show 8 + (n2 + 2) / 3 + (ps.length - 1 - i + (n1 + (ps.length - 1 - i)) / 3) + (n + 1) / 3 = gone ps.length i by unfold gone; rw [hl2] at h4; omega]
end
end Mine
theorem Mine.rst_BdP : True ∧ True := by
  w_top off
  (try walk1) <;> trivial
namespace Mine
section
set_option maxHeartbeats 2000000
theorem dig_xor (a b j : Nat) : dig (a ^^^ b) j = dig a j ^^^ dig b j := by
  unfold dig
  rw [← Nat.shiftRight_eq_div_pow, ← Nat.shiftRight_eq_div_pow, ← Nat.shiftRight_eq_div_pow, Nat.shiftRight_xor_distrib, Nat.and_xor_distrib_right]
def rowN (x : Nat) : List Int := ((digs x).map fun (n : Nat) => (n : Int)).reverse
theorem rowX_eq (a b : Nat) : (rowX a b).reverse = rowN (a ^^^ b) := by
  unfold rowX rowN digs
  congr 1
  rw [List.zipWith_map, List.zipWith_self, List.map_map]
  refine List.map_congr_left fun j _ => ?_
  rw [bitXor_cast, Function.comp, dig_xor]
theorem rowN_ok (x : Nat) : RowOk (rowN x) := by
  refine ⟨by simp [rowN, digs], ?_⟩
  intro y hy
  unfold rowN digs at hy
  rw [List.mem_reverse, List.map_map] at hy
  obtain ⟨j, _, rfl⟩ := List.mem_map.mp hy
  show (0 : Int) ≤ ((dig x j : Nat) : Int) ∧ ((dig x j : Nat) : Int) < 32
  have : dig x j ≤ 31 := Nat.and_le_right
  omega
def zs : List Int := [0, 0, 0, 0, 0, 0, 0]
/-- the field's product of the generator with what puts c away, as one number of eight digits -/
def hL : List Nat := [0, 392338141807, 784651372030, 1021832148881, 203804356565, 498929458618, 660409051691, 835813546052, 364935633571, 67359942860, 971854192477, 795075079474, 530503202166, 141152519961, 881351831688, 646082544359, 704361239654, 1067938965001, 91535331736, 335389303799, 603654470579, 927003101660, 250119061069, 418313473058, 1061006364357, 740106222762, 282263391035, 115445692756, 929781244176, 563218158463, 475862279406, 230094722689]
/-- the row divided by x, as one number -/
def dnN (y : Nat) : Nat := (y / 32) ^^^ hL.getD (y % 32) 0
def madeL (c : Nat) : List Int := List.drop 1 (genL.map fun k => powL.getD (((logL.getD c 0 - logL.getD 9 0).fmod 31 + logL.getD k.toNat 0).fmod 31).toNat 0)
def lastL (c : Nat) : Int := powL.getD ((logL.getD c 0 - logL.getD 9 0).fmod 31).toNat 0
theorem rowN_eq (y : Nat) : rowN y = [((y % 32 : Nat) : Int), ((y / 32 % 32 : Nat) : Int), ((y / 1024 % 32 : Nat) : Int), ((y / 32768 % 32 : Nat) : Int), ((y / 1048576 % 32 : Nat) : Int), ((y / 33554432 % 32 : Nat) : Int), ((y / 1073741824 % 32 : Nat) : Int), ((y / 34359738368 % 32 : Nat) : Int)] := by
  have h : ∀ x : Nat, x &&& 31 = x % 32 := fun x => Nat.and_two_pow_sub_one_eq_mod x 5
  have e : rowN y = [((dig y 7 : Nat) : Int), ((dig y 6 : Nat) : Int), ((dig y 5 : Nat) : Int), ((dig y 4 : Nat) : Int), ((dig y 3 : Nat) : Int), ((dig y 2 : Nat) : Int), ((dig y 1 : Nat) : Int), ((dig y 0 : Nat) : Int)] := rfl
  rw [e]
  unfold dig
  simp only [h]
  simp
theorem rowN_xor (a b : Nat) : rowN (a ^^^ b) = List.zipWith Builtin.bitXor (rowN a) (rowN b) := by
  have e : ∀ y, rowN y = [((dig y 7 : Nat) : Int), ((dig y 6 : Nat) : Int), ((dig y 5 : Nat) : Int), ((dig y 4 : Nat) : Int), ((dig y 3 : Nat) : Int), ((dig y 2 : Nat) : Int), ((dig y 1 : Nat) : Int), ((dig y 0 : Nat) : Int)] := fun _ => rfl
  rw [e, e, e]
  simp only [List.zipWith_cons_cons, List.zipWith_nil_left, bitXor_cast, dig_xor]
theorem h_ok : ∀ c < 32, c ≠ 0 → madeL c = (rowN (hL.getD c 0)).take 7 ∧ lastL c = (rowN (hL.getD c 0)).getD 7 0 := by decide +kernel
theorem low_row (y : Nat) (hy : y < 2 ^ 40) : lowI (rowN y) = rowN (dnN y) := by
  have h0 : (rowN y).getD 0 0 = ((y % 32 : Nat) : Int) := by rw [rowN_eq]; rfl
  have hs : rowN (y / 32) = List.drop 1 (rowN y) ++ [0] := by
    rw [rowN_eq, rowN_eq]
    simp only [Nat.div_div_eq_div_mul, List.drop_succ_cons, List.drop_zero, List.cons_append, List.nil_append, Nat.reduceMul]
    have : y / 1099511627776 % 32 = 0 := by omega
    rw [this]; rfl
  have hc : y % 32 < 32 := Nat.mod_lt _ (by decide)
  unfold dnN
  by_cases h : y % 32 = 0
  · rw [h, show hL.getD 0 0 = 0 from rfl, Nat.xor_zero, hs]
    exact (low_zero (by rw [show (Int.toNat 0) = 0 from rfl, h0, h]; rfl)).symm
  · obtain ⟨hm, hl⟩ := h_ok (y % 32) hc h
    have hlow : lowI (rowN y) = List.zipWith Builtin.bitXor (List.drop 1 (rowN y)) (madeL (y % 32)) ++ [lastL (y % 32)] := by
      have hn : ¬ (rowN y).getD 0 0 = 0 := by rw [h0]; omega
      unfold lowI
      rw [if_neg hn, h0, Int.toNat_natCast]
      rfl
    rw [hlow, hm, hl, rowN_xor, hs]
    generalize hL.getD (y % 32) 0 = g
    rw [rowN_eq, rowN_eq]
    simp only [List.drop_succ_cons, List.drop_zero, List.take_succ_cons, List.take_zero, List.zipWith_cons_cons, List.zipWith_nil_left, List.cons_append, List.nil_append, List.getD_cons_succ, List.getD_cons_zero]
    rw [show (0 : Int) = ((0 : Nat) : Int) from rfl, bitXor_cast 0, Nat.zero_xor]
theorem row_small {v : Nat} (hv : v < 2 ^ 40) (h : 32 ≤ v) : (rowN v).drop 1 ≠ zs := by
  intro e
  rw [rowN_eq] at e
  simp only [List.drop_succ_cons, List.drop_zero, zs, List.cons.injEq, and_true] at e
  omega
def okUp (n : Nat) : Nat → Bool := Nat.repeat (fun f x => Nat.beq (dnN (pmN x 0)) x && (Nat.ble 32 (pmN x 0) && (Nat.blt (pmN x 0) 1099511627776 && f (pmN x 0)))) n fun _ => true
theorem okUp_succ (n x : Nat) : okUp (n + 1) x = (Nat.beq (dnN (pmN x 0)) x && (Nat.ble 32 (pmN x 0) && (Nat.blt (pmN x 0) 1099511627776 && okUp n (pmN x 0)))) := rfl
def okDn (n : Nat) : Nat → Bool := Nat.repeat (fun f y => Nat.ble 32 (dnN y) && (Nat.blt (dnN y) 1099511627776 && f (dnN y))) n fun _ => true
theorem okDn_succ (n y : Nat) : okDn (n + 1) y = (Nat.ble 32 (dnN y) && (Nat.blt (dnN y) 1099511627776 && okDn n (dnN y))) := rfl
theorem all_ok : ∀ d < 32, 0 < d → (okUp 27 d && okDn 27 d) = true := by decide +kernel
theorem row_one : ∀ d < 32, rowN d = (d : Int) :: zs := by decide +kernel
theorem pI_first (j x : Nat) : pI j (pmN x 0) = pI (j + 1) x := (pI_add j 1 x).symm
theorem up_use : ∀ (n x : Nat), okUp n x = true → ∀ j < n, lowI (rowN (pI (j + 1) x)) = rowN (pI j x) ∧ (rowN (pI (j + 1) x)).drop 1 ≠ zs
  | 0, _, _, j, hj => absurd hj (Nat.not_lt_zero j)
  | n + 1, x, h, j, hj => by
    rw [okUp_succ, Bool.and_eq_true, Bool.and_eq_true, Bool.and_eq_true, Nat.beq_eq, Nat.ble_eq, Nat.blt_eq] at h
    obtain ⟨h1, h2, h3, h4⟩ := h
    cases j with
    | zero => exact ⟨by show lowI (rowN (pmN x 0)) = rowN x; rw [low_row _ h3, h1], row_small h3 h2⟩
    | succ j =>
      have := up_use n (pmN x 0) h4 j (by omega)
      rwa [pI_first, pI_first] at this
theorem rowAt_first (r : List Int) : ∀ j, rowAt (lowI r) j = rowAt r (j + 1)
  | 0 => rfl
  | j + 1 => by rw [rowAt_succ, rowAt_first r j]; rfl
theorem dn_use : ∀ (n y : Nat), y < 2 ^ 40 → okDn n y = true → ∀ j < n, (rowAt (rowN y) (j + 1)).drop 1 ≠ zs
  | 0, _, _, _, j, hj => absurd hj (Nat.not_lt_zero j)
  | n + 1, y, hy, h, j, hj => by
    rw [okDn_succ, Bool.and_eq_true, Bool.and_eq_true, Nat.ble_eq, Nat.blt_eq] at h
    obtain ⟨h2, h3, h4⟩ := h
    cases j with
    | zero => show (lowI (rowN y)).drop 1 ≠ zs; rw [low_row _ hy]; exact row_small h3 h2
    | succ j =>
      have := dn_use n (dnN y) h3 h4 j (by omega)
      rwa [← low_row _ hy, rowAt_first] at this
theorem down {d m : Nat} (hu : okUp 27 d = true) (hm : m ≤ 27) : ∀ k, k ≤ m → rowAt (rowN (pI m d)) k = rowN (pI (m - k) d)
  | 0, _ => rfl
  | k + 1, h => by
    rw [rowAt_succ, down hu hm k (by omega)]
    have := (up_use 27 d hu (m - (k + 1)) (by omega)).1
    rwa [show m - (k + 1) + 1 = m - k by omega] at this
theorem rowAt_add (r : List Int) (m : Nat) : ∀ j, rowAt r (m + j) = rowAt (rowAt r m) j
  | 0 => rfl
  | j + 1 => by rw [← Nat.add_assoc, rowAt_succ, rowAt_add r m j]; rfl
theorem wayOf_none {rs : List Int} {k : Nat} (h : (rowAt rs k).drop 1 ≠ zs) : wayOf rs k = [] := if_neg h
theorem ways_one {d m n : Nat} (hd : d < 32) (hd0 : 0 < d) (hmn : m < n) (hn : n ≤ 27) : waysTo (rowN (pI m d)) n = [((m : Int), (d : Int))] := by
  have h := all_ok d hd hd0
  rw [Bool.and_eq_true] at h
  obtain ⟨hu, hdn⟩ := h
  have hrow := row_one d hd
  have h1 : ∀ k, k ≤ m → waysTo (rowN (pI m d)) k = [] := by
    intro k
    induction k with
    | zero => intro _; rfl
    | succ k ih =>
      intro hk
      rw [waysTo_succ, ih (by omega), List.nil_append]
      refine wayOf_none ?_
      rw [down hu (by omega) k (by omega)]
      have := (up_use 27 d hu (m - (k + 1)) (by omega)).2
      rwa [show m - (k + 1) + 1 = m - k by omega] at this
  have hm : rowAt (rowN (pI m d)) m = rowN d := by
    rw [down hu (by omega) m (Nat.le_refl m), Nat.sub_self]; rfl
  have h2 : ∀ j, m + 1 + j ≤ 27 → waysTo (rowN (pI m d)) (m + 1 + j) = [((m : Int), (d : Int))] := by
    intro j
    induction j with
    | zero =>
      intro _
      rw [Nat.add_zero, waysTo_succ, h1 m (Nat.le_refl m), List.nil_append]
      unfold wayOf
      rw [hm, hrow]
      exact if_pos rfl
    | succ j ih =>
      intro hj
      rw [← Nat.add_assoc, waysTo_succ, ih (by omega), wayOf_none, List.append_nil]
      rw [Nat.add_assoc, Nat.add_comm 1 j, rowAt_add, hm]
      exact dn_use 27 _ (by omega) hdn j (by omega)
  have := h2 (n - (m + 1)) (by omega)
  rwa [show m + 1 + (n - (m + 1)) = n by omega] at this
end
end Mine
theorem Mine.rst_BdQ : True ∧ True := by
  w_top off
  (try walk1) <;> trivial
namespace Mine
section
set_option maxHeartbeats 2000000
theorem sgK_inj : ∀ a < 32, ∀ b < 32, sgK a = sgK b → a = b := by decide +kernel
theorem map_inj : ∀ {x y : List Nat}, (∀ a ∈ x, a < 32) → (∀ a ∈ y, a < 32) → x.map sgK = y.map sgK → x = y
  | [], [], _, _, _ => rfl
  | [], _ :: _, _, _, h => by cases h
  | _ :: _, [], _, _, h => by cases h
  | a :: x, b :: y, hx, hy, h => by
    rw [List.map_cons, List.map_cons] at h
    injection h with h1 h2
    rw [sgK_inj a (hx _ (.head _)) b (hy _ (.head _)) h1, map_inj (fun a ha => hx a (.tail _ ha)) (fun a ha => hy a (.tail _ ha)) h2]
theorem mkK_inj {a b : Nat} (h : mkK (digs b) = mkK (digs a)) : digs b = digs a := by
  refine map_inj (digs_lt b) (digs_lt a) ?_
  have := congrArg (fun z : Str => z.cps.toList) h
  simpa [mkK] using this
theorem xor_pos {x y : Nat} (h : x ≠ y) : 0 < x ^^^ y := by
  refine Nat.pos_of_ne_zero fun e => h ?_
  have : x ^^^ y ^^^ y = 0 ^^^ y := by rw [e]
  rwa [Nat.xor_assoc, Nat.xor_self, Nat.xor_zero, Nat.zero_xor] at this
/-- all that the law's walk asks of the numbers -/
theorem law_plain {ps : List Nat} {i p q : Nat} (hp : ps[i]? = some p) (hpq : q / 32 = p / 32) (hne : q ≠ p) (h14 : ps.length ≤ 14) :
    (rowX (ckNum ps) (ckNum (ps.set i q))).reverse = rowN (pI (gone ps.length i) (p % 32 ^^^ q % 32)) ∧
    waysTo (rowN (pI (gone ps.length i) (p % 32 ^^^ q % 32))) (8 + ps.length + (ps.length + 2) / 3) = [(((gone ps.length i : Nat) : Int), ((p % 32 ^^^ q % 32 : Nat) : Int))] ∧
    ¬ (mkK (digs (ckNum (ps.set i q))) == mkK (digs (ckNum ps))) = true := by
  have hi : i < ps.length := (List.getElem?_eq_some_iff.mp hp).1
  have e1 : (p &&& 31) ^^^ (q &&& 31) = p % 32 ^^^ q % 32 := by
    rw [show (31 : Nat) = 2 ^ 5 - 1 from rfl, Nat.and_two_pow_sub_one_eq_mod, Nat.and_two_pow_sub_one_eq_mod]
  have hd : p % 32 ^^^ q % 32 < 32 := Nat.xor_lt_two_pow (n := 5) (Nat.mod_lt _ (by decide)) (Nat.mod_lt _ (by decide))
  have hd0 : 0 < p % 32 ^^^ q % 32 := xor_pos (by omega)
  have hx := num_diff ps i p q hp hpq
  rw [e1] at hx
  generalize p % 32 ^^^ q % 32 = d at hx hd hd0 ⊢
  have hm : gone ps.length i < 8 + ps.length + (ps.length + 2) / 3 := by unfold gone; omega
  have h1 : (rowX (ckNum ps) (ckNum (ps.set i q))).reverse = rowN (pI (gone ps.length i) d) := by
    rw [rowX_eq, hx, ← Nat.xor_assoc, Nat.xor_self, Nat.zero_xor]
  refine ⟨h1, ways_one hd hd0 hm (by omega), ?_⟩
  intro hb
  have hb := mkK_inj (eq_of_beq hb)
  have h2 : (rowX (ckNum ps) (ckNum (ps.set i q))).reverse = rowN 0 := by
    have : rowX (ckNum ps) (ckNum (ps.set i q)) = rowX (ckNum ps) (ckNum ps) := by unfold rowX; rw [hb]
    rw [this, rowX_eq, Nat.xor_self]
  rw [h1] at h2
  have h := all_ok d hd hd0
  rw [Bool.and_eq_true] at h
  have h3 := (up_use 27 d h.1 (gone ps.length i - 1) (by omega)).2
  rw [show gone ps.length i - 1 + 1 = gone ps.length i by unfold gone; omega, h2] at h3
  exact h3 (by decide +kernel)
end
end Mine
theorem Mine.rst_BdQ2 : True ∧ True := by
  w_top off
  (try walk1) <;> trivial
namespace Mine
section
set_option maxHeartbeats 2000000
theorem law_walk {w : World} {mg mb : Str → Option Value} {mean : ExcName → Option Value} {dp un : Nat} {gd : Option (List Code)} {L fa₀ : Addr} {cd : Value} {outer : List Env} {A₀ : Around} {base h₀ : Heap} {u : Str → Option Value} {s : Shared} {Q : Flow → Shared → Prop} {E : Value → Shared → Prop}
    {o1 o2 o3 : Obj} {ax : Addr} {vs : List Value} {ns : List Int} {c1 c2 c3 : Option Value}
    (B : Below A₀ base outer h₀) (F : Fr h₀ L s.heap (kstB u [(Str.ofString "script", .ref ax)])) (X : (hd_bd.heap_39 w.params).In h₀) (N : News h₀ L s.heap [(L + 1 + 1 + 1, o3), (L + 1 + 1, o2), (L + 1, o1)]) (T : Top hd_bd.view_39 (looseW hd_bd.view_39 []) mean mg mb h₀)
    (d1 : o1.data = .cell c1) (d2 : o2.data = .cell c2) (d3 : o3.data = .cell c3) (hl : h₀.IsList ax vs.toArray) (hi : IntsAre vs ns) (h63 : ns.length ≤ 63)
    (hd : dp + 10 < recursionLimit) (hu : un + 80 < cLine) (hE : PassesOwn (model Challenge.rw_bd0006_01.row.prog w) (lawA dp un gd L fa₀ cd outer) (lawEnv L fa₀ cd) E)
    (h : ∀ (m' : Str → Option Value) (h' : Heap) (tk : Nat), Fr h₀ L h' m' → Q (.ret (.bool true)) { s with heap := h', toks := tk }) :
    wpAny (model Challenge.rw_bd0006_01.row.prog w) (lawA dp un gd L fa₀ cd outer) (execs lawBody (lawEnv L fa₀ cd)) Q E s := by
  have eb : lawBody = [lawSt 0, lawSt 1, lawSt 2, lawSt 3, lawSt 4, lawSt 5, lawSt 6, lawSt 7, lawSt 8, lawSt 9, lawSt 10, lawSt 11, lawSt 12, lawSt 13, lawSt 14, lawSt 15, lawSt 16, lawSt 17, lawSt 18] := rfl
  rw [eb]
  clear eb
  refine stage1 B F X N T d1 d2 d3 hl hi h63 hd hu ?_
  clear F N
  intro u D ws h' tk F N hLD iw
  have hx : 6 ≤ (ns.take 16 ++ ([5, 33, 8, 70, 91, 12] : List Int).drop (ns.take 16).length).length ∧ (ns.take 16 ++ ([5, 33, 8, 70, 91, 12] : List Int).drop (ns.take 16).length).length ≤ 16 := by
    simp only [List.length_append, List.length_drop, List.length_take, List.length_cons, List.length_nil]; omega
  generalize ns.take 16 ++ ([5, 33, 8, 70, 91, 12] : List Int).drop (ns.take 16).length = xs at iw hx
  refine stage2 B F X N T hLD d1 d2 iw hx.1 hx.2 hd hu ?_
  clear F N d1 d2
  intro u o1 o2 t1 t2 h' tk F N d1 d2
  have hl : ((xs.drop 2).map cellP).length = xs.length - 2 := by rw [List.length_map, List.length_drop]
  have hps : ∀ p ∈ (xs.drop 2).map cellP, p < 95 ∧ p ≠ 91 := by
    intro p hp
    obtain ⟨k, _, rfl⟩ := List.mem_map.mp hp
    exact cellP_ok k
  generalize (xs.drop 2).map cellP = ps at d2 hl hps
  have h4 : 4 ≤ ps.length := by omega
  have h14 : ps.length ≤ 14 := by omega
  refine stage3 (t1 := t1) B F X N T d2 iw hx.1 h4 h14 ?_
  clear F N
  intro u i ti h' tk hil F N
  obtain ⟨p, hp⟩ : ∃ p, ps[i]? = some p := ⟨ps[i], List.getElem?_eq_getElem hil⟩
  have hp95 := (hps p (List.mem_of_getElem? hp)).1
  refine stage4 B F X N T d1 d2 h14 hp hp95 ?_
  clear F N
  intro u ti t h' tk F N
  refine stage5 B F X N T iw hx.1 hp95 ?_
  clear F N
  intro u q ti t tq h' tk hq hpq hne F N
  have hps2 : ∀ p ∈ ps.set i q, p < 95 := by
    intro z hz
    rcases List.mem_or_eq_of_mem_set hz with hz | rfl
    · exact (hps z hz).1
    · exact hq
  obtain ⟨hrow, hways, hnq⟩ := law_plain hp hpq hne h14
  refine stage6 B F X N T d1 d2 h14 hil hq ?_
  clear F N
  intro u ti t tq tt h' tk F N
  refine stage7 B F X N T d2 (fun p hp => (hps p hp).1) hps2 hd hu ?_
  clear F N
  intro u ti t tq tt ta tb h' tk F N
  refine stage8 (a := ckNum ps) (b := ckNum (ps.set i q)) B F X N T ?_
  clear F N
  intro u ti t tq tt ta tb D vs n h' tk F N hLD iv
  rw [hrow] at iv
  refine stage9 B F X N T hnq ?_
  clear F N
  intro h' tk F N
  have F2 := fr_kst [(Str.ofString "place", .int (i : Int) ti), (Str.ofString "spot", .int (p : Int) t), (Str.ofString "other", .int (q : Int) tq), (Str.ofString "turned", .str (mkT (ps.set i q)) tt), (Str.ofString "told", .str (mkK (digs (ckNum ps))) ta), (Str.ofString "row", .ref D)] (by kst_all) F
  refine stage10 B F2 X N T hLD d3 hd hu ?_
  clear F F2 N d3
  intro u ti t tq tt ta fa lp ll ya vp vl np o3 h' tk F N iP iL d3 hya
  refine stage11 B F X N T iP iL iv (rowN_ok _) d3 d2 h14 h4 hya hd hu hE hways ?_
  clear F N
  intro u tm td T9 tn wv h' tk F N
  have hgone : ((gone ps.length i : Nat) : Int) = 8 + (ps.length : Int) - 1 - i + (((ps.length + 2) / 3 : Nat) - (i / 3 : Nat)) := by unfold gone; omega
  refine stage12 B F X N T d3 d2 h14 h4 hil hp95 hq hgone rfl hd hu ?_
  clear F N
  intro u h' tk F N
  refine stage13 B F X N T d3 d2 h14 h4 hil hp95 hq hgone hd hu ?_
  clear F N
  intro u h' tk P pv pn F N iPv
  exact stage14 (rest := []) B F X N T d3 d2 d1 h14 hil hp hp95 hq hpq hps iPv rfl hd hu h
end
end Mine
theorem Mine.rst_BdM : True ∧ True := by
  w_top off
  (try walk1) <;> trivial
open Mine
theorem PySem.Challenge.cw_bd0006_01_holds : PySem.Challenge.rw_bd0006_01.Holds := by
  refine hd_bd ?_
  k_go0
  (rename Fr _ _ _ _ => fE)
  (rename News _ _ _ _ => nE)
  (rename Below _ _ _ _ => bE)
  (rename Top _ _ _ _ _ _ => tE)
  (rename Frag.In _ _ => xE)
  (rename IntsAre _ _ => iE)
  (rename Heap.IsList _ _ _ => lE)
  rename_i hcond _ _ _ _ _ _ _ _ _ _ _ _ _ _
  have F2 := fr_kst [(Str.ofString "script", .ref _)] (by intro p hp; obtain rfl := List.mem_singleton.mp hp; rfl) fE
  refine wpAny_mono (law_walk (E := fun _ _ => False) bE F2 xE nE tE (by assumption) (by assumption) (by assumption) lE iE ?h63 ?hd ?hu PassesOwn.never ?hq) (fun _ _ p => p) (fun _ _ e => e.elim)
  case h63 => omega
  case hd => ktr_room
  case hu => decide
  case hq =>
    intro m' h' tk F'
    first
      | wrow_close
      | (refine goodW_bool F' (by assumption) (fun _ => rfl) rfl)
