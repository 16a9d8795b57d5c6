import PyProof.Rows.All
import Wide.All
import OpenK.AllK
import Wide.FinOn
import Lean
import PySem.Challenge.RW_gg0006_01
open PySem PySem.W PyProof.Rows PySem.Calls
set_option Elab.async false
set_option linter.unusedVariables false
set_option maxRecDepth 100000
set_option maxHeartbeats 8000000
namespace Mine
open_top hd for PySem.Challenge.rw_gg0006_01
end Mine
namespace Mine
theorem top_off : True := by
  w_top off
  trivial
end Mine
namespace Mine
section
variable {prog : Program} {w : World} {A : Around} {E : Value → Shared → Prop} {s : Shared} {a b k : Int} {t u : Tok} {Q : Value → Shared → Prop}
theorem L_add (hk : a + b = k) (h : Q (.int k s.toks) { s with toks := s.toks + 1 }) : wpAny (model prog w) A (binaryOp .Add (.int a t) (.int b u)) Q E s := add_int (by rw [hk]; exact h)
theorem L_sub (hk : a - b = k) (h : Q (.int k s.toks) { s with toks := s.toks + 1 }) : wpAny (model prog w) A (binaryOp .Sub (.int a t) (.int b u)) Q E s := sub_int (by rw [hk]; exact h)
theorem L_mul (hk : a * b = k) (hm : IntMulOk a b) (h : Q (.int k s.toks) { s with toks := s.toks + 1 }) : wpAny (model prog w) A (binaryOp .Mult (.int a t) (.int b u)) Q E s := mul_int (by rw [hk]; exact h) hm
theorem L_fdiv (hb : b ≠ 0) (hp : Builtin.divisionGoesByPylong a b = false) (hk : a.fdiv b = k) (h : Q (.int k s.toks) { s with toks := s.toks + 1 }) : wpAny (model prog w) A (binaryOp .FloorDiv (.int a t) (.int b u)) Q E s := floordiv_int hb (by rw [hk]; exact h) (.inl hp)
theorem L_shl (h0 : 0 ≤ b) (h1 : b ≤ 1000000) (h2 : a.natAbs < 2 ^ 64) (hk : a * 2 ^ b.toNat = k) (h : Q (.int k s.toks) { s with toks := s.toks + 1 }) : wpAny (model prog w) A (binaryOp .LShift (.int a t) (.int b u)) Q E s := lshift_int_small h0 h1 h2 (by rw [hk]; exact h)
theorem L_shr (h0 : 0 ≤ b) (hk : a.fdiv (2 ^ b.toNat) = k) (h : Q (.int k s.toks) { s with toks := s.toks + 1 }) : wpAny (model prog w) A (binaryOp .RShift (.int a t) (.int b u)) Q E s := rshift_int h0 (by rw [hk]; exact h)
theorem L_xor (hk : Builtin.bitXor a b = k) (h : Q (.int k s.toks) { s with toks := s.toks + 1 }) : wpAny (model prog w) A (binaryOp .BitXor (.int a t) (.int b u)) Q E s := xor_int (by rw [hk]; exact h)
theorem L_bits (hk : ((Builtin.Int.intBits a : Nat) : Int) = k) (h : Q (.int k s.toks) { s with toks := s.toks + 1 }) : wpAny (model prog w) A (call (.builtin "int.bit_length") [.int a t]) Q E s := call_int_bit_length (by rw [hk]; exact h)
end
theorem L_len {prog : Program} {w : World} {A : Around} {E : Value → Shared → Prop} {s : Shared} {l : Addr} {items : Array Value} {k : Int} {Q : Value → Shared → Prop} (hl : s.heap.IsList l items) (hk : (items.size : Int) = k) (hf : k < 2 ^ 63)
    (h : Q (.int k (s.toks + 1)) { s with toks := s.toks + 1 + 1 }) : wpAny (model prog w) A (call (.builtin "len") [.ref l]) Q E s := len_list hl (by rw [hk]; exact hf) (by rw [hk]; exact h)
end Mine
namespace Mine
variable {prog : Program} {w : World} {p : Program} {loose : List Str} {mean : ExcName → Option Value} {mg mb : Str → Option Value} {dp un : Nat} {gd : Option (List Code)} {cn : Str} {cs : Scope} {a : Addr} {ccd : Value} {cl : List (Str × Addr)} {outer : List Env} {A₀ : Around} {base h₀ : Heap} {L : Addr} {m : Str → Option Value} {s : Shared} {Q : Value → Shared → Prop} {E : Value → Shared → Prop} {news : List (Addr × Obj)}
noncomputable abbrev qI : Str := Str.ofString "_int2digits.<locals>.inner"
noncomputable abbrev qD : Str := Str.ofString "_digits2int.<locals>.inner"
noncomputable def IsCo (o : Obj) (q : Str) : Prop := ∃ (vs : Array Value) (t : Tok), o.data = .fields vs ∧ vs[1]? = some (.str q t)
theorem isCo_of {o : Obj} {vs : Array Value} {q q' : Str} {t : Tok} (hd : o.data = .fields vs) (hv : vs[1]? = some (.str q t)) (e : q = q') : IsCo o q' := ⟨vs, t, hd, by rw [← e]; exact hv⟩
theorem G_fdiv {A : Around} {x y k : Int} {t u : Tok} (hb : y ≠ 0) (hp : Builtin.divisionGoesByPylong x y = false) (hk : x.fdiv y = k) (h : Q (.int k s.toks) { s with toks := s.toks + 1 }) : wpAny (model prog w) A (binaryOp .FloorDiv (.int x t) (.int y u)) Q E s := L_fdiv hb hp hk h
theorem ne_of_allLt {d : Addr} {l : List (Addr × Obj)} (h : AllLt d l) : ∀ p ∈ l, p.1 ≠ d := by
  induction l with
  | nil => exact fun _ hp => nomatch hp
  | cons q r ih =>
    intro p hp
    cases hp with
    | head => exact Nat.ne_of_lt h.1
    | tail _ hp => exact ih h.2 p hp
theorem allLt_le {d e : Addr} {l : List (Addr × Obj)} (h : AllLt d l) (hde : d ≤ e) : ∀ p ∈ l, p.1 ≠ e := by
  induction l with
  | nil => exact fun _ hp => nomatch hp
  | cons q r ih =>
    intro p hp
    cases hp with
    | head => exact Nat.ne_of_lt (Nat.lt_of_lt_of_le h.1 hde)
    | tail _ hp => exact ih h.2 p hp
theorem ne1 {d : Addr} {l : List (Addr × Obj)} (h : AllLt d l) : ∀ p ∈ l, p.1 ≠ d + 1 := allLt_le h (Nat.le_add_right _ _)
theorem ne2 {d : Addr} {l : List (Addr × Obj)} (h : AllLt d l) : ∀ p ∈ l, p.1 ≠ d + 1 + 1 := allLt_le h (Nat.le_add_right d 2)
theorem ne3 {d : Addr} {l : List (Addr × Obj)} (h : AllLt d l) : ∀ p ∈ l, p.1 ≠ d + 1 + 1 + 1 := allLt_le h (Nat.le_add_right d 3)

end Mine
local macro_rules | `(tactic| k_room) => `(tactic| ktr_room)
local macro_rules | `(tactic| walk_at "binaryOp FloorDiv int int") => `(tactic| (refine' Mine.G_fdiv ?hb ?hp ?hk ?_; (case hb => omega); (case hp => assumption); (case hk => assumption); k_whole))
local macro_rules | `(tactic| k_all) => `(tactic| first | assumption | (first | refine' Mine.ne3 ?_ | refine' Mine.ne2 ?_ | refine' Mine.ne1 ?_ | refine' Mine.ne_of_allLt ?_); first | assumption | exact (And.right (by assumption)) | exact (And.right (And.right (by assumption))) | exact (And.right (And.right (And.right (by assumption)))) | exact (And.right (And.right (And.right (And.right (by assumption))))) | exact (And.right (And.right (And.right (And.right (And.right (by assumption)))))) | exact (And.right (And.right (And.right (And.right (And.right (And.right (by assumption))))))) | exact (And.right (And.right (And.right (And.right (And.right (And.right (And.right (by assumption)))))))) | exact (And.right (And.right (And.right (And.right (And.right (And.right (And.right (And.right (by assumption))))))))) | exact (And.right (And.right (And.right (And.right (And.right (And.right (And.right (And.right (And.right (by assumption)))))))))) | exact (And.right (And.right (And.right (And.right (And.right (And.right (And.right (And.right (And.right (And.right (by assumption))))))))))) | exact (And.right (And.right (And.right (And.right (And.right (And.right (And.right (And.right (And.right (And.right (And.right (by assumption)))))))))))) | exact (And.right (And.right (And.right (And.right (And.right (And.right (And.right (And.right (And.right (And.right (And.right (And.right (by assumption))))))))))))) | exact (And.right (And.right (And.right (And.right (And.right (And.right (And.right (And.right (And.right (And.right (And.right (And.right (And.right (by assumption)))))))))))))))
section
namespace Mine
theorem fill_CDiv : ∀ P, Mine.hd.heap_39 P = Mine.hd.heap_39 P ∧ PySem.Challenge.rw_gg0006_01 = PySem.Challenge.rw_gg0006_01 := by
  k_fill
  exact fun _ => ⟨rfl, rfl⟩
variable {prog : Program} {w : World} {p : Program} {loose : List Str} {mean : ExcName → Option Value} {mg mb : Str → Option Value} {dp un : Nat} {gd : Option (List Code)} {cn : Str} {cs : Scope} {a : Addr} {ccd : Value} {cl : List (Str × Addr)} {outer : List Env} {A₀ : Around} {base h₀ : Heap} {L : Addr} {m : Str → Option Value} {s : Shared} {Q : Value → Shared → Prop} {E : Value → Shared → Prop} {news : List (Addr × Obj)}
theorem G_divmod {A : Around} {x y : Int} {t u : Tok}
    (F : Fr h₀ L s.heap m) (N : News h₀ L s.heap news) (hb : y ≠ 0) (hp : Builtin.divisionGoesByPylong x y = false)
    (h : ∀ (D : Addr) (h' : Heap) (tk t1 t2 : Tok), Fr h₀ L h' m → News h₀ L h' ((D, { cls := .type "tuple", data := .seq #[.int (x.fdiv y) t1, .int (x.fmod y) t2] }) :: news) → (∀ p ∈ news, p.1 < D) → Q (.ref D) { s with heap := h', toks := tk }) :
    wpAny (model prog w) A (call (.builtin "divmod") [.int x t, .int y u]) Q E s :=
  divmod_N F N hb (fun h' F' N' => h _ h' _ _ _ F' N' fun p hp' => Heap.lt_size (N p hp').1) (.inl hp)
local macro_rules | `(tactic| walk_at "call builtin:divmod") => `(tactic| (refine' G_divmod ?F ?N ?hb ?hp ?_; (case F => k_asm); (case N => k_asm); (case hb => assumption); (case hp => assumption); k_whole; intro D' h' tk' t1' t2' F' N' l1))
set_option maxHeartbeats 4000000 in
theorem c_div (x y n : Int) (t1 t2 t3 : Tok) (hb : Builtin.Int.intBits x ≤ 64) (hn : 0 ≤ n) (hy : y ≠ 0) (hpy : Builtin.divisionGoesByPylong x y = false)
  (B : Below A₀ base outer h₀) (F : Fr h₀ L s.heap m) (X : (Mine.hd.heap_39 w.params).In h₀) (N : News h₀ L s.heap news) (T : Top p loose mean mg mb h₀) (hk : cs.kind = .function)
  (hd : dp + 1 < recursionLimit)
  (hQ : ∀ (r : Addr) (h' : Heap) (tk' t t' : Tok), Fr h₀ L h' m → News h₀ L h' ((r, { cls := .type "tuple", data := .seq #[.int (x.fdiv y) t, .int (x.fmod y) t'] }) :: news) → (∀ p ∈ news, p.1 < r) → Q (.ref r) { s with heap := h', toks := tk' }) :
  wpAny (model prog w) (ktrTop dp un gd cn cs L a ccd cl outer) (call (.ref 42) [.int x t1, .int y t2, .int n t3]) Q E s := by
  obtain ⟨ck, cnames, c3, c4, c5⟩ := cs
  dsimp only at hk
  subst hk
  refine wpAny_call ?_
  k_enter
  k_steps
  all_goals (exact hQ _ _ _ _ _ (by assumption) (by assumption) (by assumption))
end Mine
end
namespace Mine
variable {prog : Program} {w : World} {p : Program} {loose : List Str} {mean : ExcName → Option Value} {mg mb : Str → Option Value} {dp un : Nat} {gd : Option (List Code)} {cn : Str} {cs : Scope} {a : Addr} {ccd : Value} {cl : List (Str × Addr)} {outer : List Env} {A₀ : Around} {base h₀ : Heap} {L : Addr} {m : Str → Option Value} {s : Shared} {Q : Value → Shared → Prop} {E : Value → Shared → Prop} {news : List (Addr × Obj)}
theorem allLt_iff {d : Addr} {l : List (Addr × Obj)} : AllLt d l ↔ ∀ p ∈ l, p.1 < d := by
  induction l with
  | nil => exact ⟨fun _ _ hp => (nomatch hp), fun _ => trivial⟩
  | cons q r ih =>
    constructor
    · intro h p hp
      cases hp with
      | head => exact h.1
      | tail _ hp => exact ih.mp h.2 p hp
    · intro h
      exact ⟨h q (List.Mem.head _), ih.mpr fun p hp => h p (List.Mem.tail _ hp)⟩
theorem news_fun {full : List (Addr × Obj)} {h : Heap} {a : Addr} {o o' : Obj} (N : News h₀ L h full) (m1 : (a, o) ∈ full) (m2 : (a, o') ∈ full) : o' = o := by
  have e1 := (N _ m1).1
  have e2 := (N _ m2).1
  exact Option.some.inj (e2.symm.trans e1)
noncomputable def Hold (P : Prop) : Prop := P
theorem hold {P : Prop} (h : Hold P) : P := h
theorem gs_end {H g h : Heap} {adr adr' : List Addr} {L' : Addr} {m' : Str → Option Value} (G : GSub H g adr) (e : adr = adr') (F : Fr g L' h m') : GSub H h adr' := by
  subst e
  exact fun b o x y => F.keep b o (G b o x y)
/-- a callee's ledger and the rest of the caller's, joined -/
theorem gs_join {H h : Heap} {adr : List Addr} {full new : List (Addr × Obj)} (N : News h₀ L H full) (G : GSub H h adr) (N' : News h₀ L h new)
    (ht : ∀ a ∈ adr, ∃ o, (a, o) ∈ full ∧ (a, o) ∈ new) : News h₀ L h full := by
  intro p hp
  by_cases hb : p.1 ∈ adr
  · obtain ⟨o, h1, h2⟩ := ht _ hb
    obtain ⟨a, o'⟩ := p
    have := news_fun N h1 hp
    subst this
    exact N' _ h2
  · exact ⟨G _ _ (N p hp).1 hb, (N p hp).2⟩
theorem lt_of_max {x D : Nat} {full : List (Addr × Obj)} (hm : ∀ p ∈ full, p.1 ≤ x) (h : x < D) : AllLt D full := allLt_iff.mpr fun p hp => Nat.lt_of_le_of_lt (hm p hp) h
theorem has_max {full : List (Addr × Obj)} {q : Addr × Obj} (hq : q ∈ full) : ∃ x o, ((x, o) : Addr × Obj) ∈ full ∧ ∀ p ∈ full, p.1 ≤ x := by
  induction full generalizing q with
  | nil => cases hq
  | cons r l ih =>
    cases l with
    | nil => exact ⟨r.1, r.2, List.Mem.head _, fun p hp => by cases hp with | head => exact Nat.le_refl _ | tail _ hp => cases hp⟩
    | cons r' l' =>
      obtain ⟨x, o, h1, h2⟩ := ih (List.Mem.head _)
      by_cases hx : r.1 ≤ x
      · exact ⟨x, o, List.Mem.tail _ h1, fun p hp => by cases hp with | head => exact hx | tail _ hp => exact h2 p hp⟩
      · exact ⟨r.1, r.2, List.Mem.head _, fun p hp => by
          cases hp with
          | head => exact Nat.le_refl _
          | tail _ hp => exact Nat.le_trans (h2 p hp) (Nat.le_of_lt (Nat.lt_of_not_le hx))⟩
end Mine
namespace Mine
variable {prog : Program} {w : World} {p : Program} {loose : List Str} {mean : ExcName → Option Value} {mg mb : Str → Option Value} {dp un : Nat} {gd : Option (List Code)} {cn : Str} {cs : Scope} {a : Addr} {ccd : Value} {cl : List (Str × Addr)} {outer : List Env} {A₀ : Around} {base h₀ : Heap} {L : Addr} {m : Str → Option Value} {s : Shared} {Q : Value → Shared → Prop} {E : Value → Shared → Prop} {news : List (Addr × Obj)}
inductive Off (a b : Nat) : List (Addr × Obj) → List (Addr × Obj) → Prop
  | nil : Off a b [] []
  | keep {c : Nat} {o : Obj} {l l' : List (Addr × Obj)} : c ≠ a → c ≠ b → Off a b l l' → Off a b ((c, o) :: l) ((c, o) :: l')
  | drop {c : Nat} {o : Obj} {l l' : List (Addr × Obj)} : Off a b l l' → Off a b ((c, o) :: l) l'
theorem Off.sub {a b : Nat} {l l' : List (Addr × Obj)} (h : Off a b l l') : ∀ p ∈ l', p ∈ l ∧ p.1 ≠ a ∧ p.1 ≠ b := by
  induction h with
  | nil => exact fun _ hp => nomatch hp
  | keep h1 h2 _ ih =>
    intro p hp
    cases hp with
    | head => exact ⟨List.Mem.head _, h1, h2⟩
    | tail _ hp => exact ⟨List.Mem.tail _ (ih p hp).1, (ih p hp).2⟩
  | drop _ ih => exact fun p hp => ⟨List.Mem.tail _ (ih p hp).1, (ih p hp).2⟩
/-- a code object's table: empty, or with the code object -/
noncomputable def Tab (ln co : Nat) (q : Str) (ps : Array Value) (k : Nat) (o : Obj) : Prop := ps = #[] ∨ (ps = #[rawInt ln, rawInt co, .ref k] ∧ IsCo o q)
theorem nestU {A : Around} {c P k : Nat} {o : Obj} {ps : Array Value} {name qual : Str} {params : Arguments} {body : List Stmt} {scope : Scope} {clos : List (Str × Addr)} {pos : Pos} {fl : Nat} {news' : List (Addr × Obj)}
    (F : Fr h₀ L s.heap m) (N : News h₀ L s.heap news) (T : Top p loose mean mg mb h₀) (C : CodeHd h₀ c P) (hcd : ccd = .ref c) (hm : (P, tabObj ps) ∈ news) (hkm : (k, o) ∈ news) (tab : Tab pos.line pos.col qual ps k o) (O : Off P P news news')
    (hcl : closureFor scope (envX cn cs L a ccd cl) = pure clos)
    (h : ∀ (f : Nat) (k' : Nat) (o' : Obj) (vs : Array Value) (t : Tok) ctv doc h' tk, Fr h₀ L h' m →
      News h₀ L h' ((f, fnMade name qual params body scope clos doc ((mg "__name__").getD .none) k' ctv) :: (k', o') :: (P, tabObj #[rawInt pos.line, rawInt pos.col, .ref k']) :: news') →
      o'.data = .fields vs → vs[1]? = some (.str qual t) → ((ps ≠ #[] ∧ k' = k ∧ o' = o) ∨ AllLt k' ((P, tabObj ps) :: news')) → (ps ≠ #[] → k' = k ∧ o' = o) → k' < f → AllLt f ((P, tabObj ps) :: news') → Q (.ref f) { s with heap := h', toks := tk }) :
    wpAny (model prog w) A (makeFunction name qual params (.stmts body) scope (envX cn cs L a ccd cl) [] [] [] pos fl) Q E s := by
  have sub := O.sub
  rcases tab with rfl | ⟨rfl, vs, t, hd, hv⟩
  · refine nest_K (news := (P, tabObj #[]) :: news') (g := fun o' => (P, o') :: news') F (List.forall_mem_cons.mpr ⟨N _ hm, fun p hp => N p (sub p hp).1⟩) T C hcd (.head fun p hp => (sub p hp).2.1) trivial (by rfl) hcl ?_
    intro f c' oc vs t ctv doc h' tk F' N' d1 d2 l1 l2
    exact h f c' oc vs t ctv doc h' tk F' N' d1 d2 (.inr (allLt_iff.mpr l1)) (fun q => absurd rfl q) l2 (allLt_iff.mpr fun q hq => Nat.lt_trans (l1 q hq) l2)
  · refine nestHit_K (c' := k) F N T C hcd hm (by simp [TriplesOk, rawInt]) (by simp [codeAmong, rawInt]) hcl ?_
    intro f ctv doc h' tk F' N' l1
    refine h f k o vs t ctv doc h' tk F' (List.forall_mem_cons.mpr ⟨N' _ (List.Mem.head _), List.forall_mem_cons.mpr ⟨N' _ (List.Mem.tail _ hkm), List.forall_mem_cons.mpr ⟨N' _ (List.Mem.tail _ hm), fun p hp => N' p (List.Mem.tail _ (sub p hp).1)⟩⟩⟩) hd hv (.inl ⟨by simp, rfl, rfl⟩) (fun _ => ⟨rfl, rfl⟩) (l1 _ hkm) (allLt_iff.mpr (List.forall_mem_cons.mpr ⟨l1 _ hm, fun p hp => l1 p (sub p hp).1⟩))
/-- what `_int2digits`'s inner does to the list -/
noncomputable def i2R (n : Int) : Nat → Int → Int → Int → List Int → Option (List Int)
  | 0, _, _, _, _ => none
  | k + 1, x, lo, hi, l =>
    if lo + 1 = hi then (if 0 ≤ lo ∧ lo < l.length then some (l.set lo.toNat x) else none)
    else
      let mid := (lo + hi).fdiv (2 ^ (1 : Int).toNat)
      let sh := (mid - lo) * n
      let up := x.fdiv (2 ^ sh.toNat)
      if 0 ≤ sh ∧ sh ≤ 1000000 ∧ up.natAbs < 2 ^ 64 ∧ Builtin.Int.intBits (mid - lo) ≤ 64 then
        match i2R n k (Builtin.bitXor x (up * 2 ^ sh.toNat)) lo mid l with
        | some l1 => i2R n k up mid hi l1
        | none => none
      else none
theorem i2R_base {n x lo hi : Int} {k : Nat} {l l' : List Int} (h : i2R n (k + 1) x lo hi l = some l') (e : lo + 1 = hi) : 0 ≤ lo ∧ lo < l.length ∧ l' = l.set lo.toNat x := by
  unfold i2R at h
  rw [if_pos e] at h
  split at h
  · next q => cases h; exact ⟨q.1, q.2, rfl⟩
  · cases h
theorem i2R_step {n x lo hi : Int} {k : Nat} {l l' : List Int} (h : i2R n (k + 1) x lo hi l = some l') (e : lo + 1 ≠ hi) :
    ∃ l1 mid sh up lw, (lo + hi).fdiv (2 ^ (1 : Int).toNat) = mid ∧ (mid - lo) * n = sh ∧ x.fdiv (2 ^ sh.toNat) = up ∧ Builtin.bitXor x (up * 2 ^ sh.toNat) = lw ∧ 0 ≤ sh ∧ sh ≤ 1000000 ∧ up.natAbs < 2 ^ 64 ∧ Builtin.Int.intBits (mid - lo) ≤ 64 ∧
      i2R n k lw lo mid l = some l1 ∧ i2R n k up mid hi l1 = some l' := by
  unfold i2R at h
  rw [if_neg e] at h
  dsimp only at h
  split at h
  · next q =>
    split at h
    · next l1 e1 => exact ⟨l1, _, _, _, _, rfl, rfl, rfl, rfl, q.1, q.2.1, q.2.2.1, q.2.2.2, e1, h⟩
    · cases h
  · cases h
theorem eqT {A : Around} {a b : Int} {t u : Tok} (e : a = b) (h : Q (.bool true) s) : wpAny (model prog w) A (compareOp .Eq (.int a t) (.int b u)) Q E s := by
  subst e
  exact eq_int (by simpa using h)
theorem eqF {A : Around} {a b : Int} {t u : Tok} (e : a ≠ b) (h : Q (.bool false) s) : wpAny (model prog w) A (compareOp .Eq (.int a t) (.int b u)) Q E s := by
  exact eq_int (by rw [show (a == b) = false from by simpa using e]; exact h)
theorem IntsAre.set' {vs : List Value} {l : List Int} (h : IntsAre vs l) (x : Int) (t : Tok) : ∀ i : Nat, IntsAre (vs.set i (.int x t)) (l.set i x) := by
  induction h with
  | nil => intro i; exact .nil
  | cons n u h ih =>
    intro i
    cases i with
    | zero => exact .cons _ _ h
    | succ i => exact .cons _ _ (ih i)
theorem ia_len {vs : List Value} {l : List Int} (h : IntsAre vs l) : vs.length = l.length := by
  induction h with
  | nil => rfl
  | cons n u h ih => simp [ih]
theorem setL {vs : List Value} {v : Value} : ∀ {i : Nat}, i < vs.length → ki_setL vs.toArray.toList i v = some (vs.set i v) := by
  show ∀ {i : Nat}, i < vs.length → ki_setL vs i v = some (vs.set i v)
  induction vs with
  | nil => intro i h; cases h
  | cons a r ih =>
    intro i h
    cases i with
    | zero => rfl
    | succ i =>
      have := ih (i := i) (by simpa using h)
      simp only [ki_setL, this]
      rfl
theorem setK {A : Around} {D : Addr} {vs : List Value} {l : List Int} {n : Nat} {k x : Int} {t u : Tok} {news' : List (Addr × Obj)} {Q : Unit → Shared → Prop} (F : Fr h₀ L s.heap m) (N : News h₀ L s.heap news) (hI : IntsAre vs l) (h0 : 0 ≤ k) (h1 : k < l.length) (hfit : k < 2 ^ 63)
    (U : Upd D (listOf vs.toArray n) (listOf (vs.set k.toNat (.int x u)).toArray n) news news')
    (h : ∀ h', IntsAre (vs.set k.toNat (.int x u)) (l.set k.toNat x) → Fr h₀ L h' m → News h₀ L h' news' → Q () { s with heap := h' }) : wpAny (model prog w) A (setItem (.ref D) (.int k t) (.int x u)) Q E s :=
  ki_set F N h0 hfit (setL (by have := ia_len hI; omega)) U fun h' F' N' => h h' (IntsAre.set' hI _ _ _) F' N'
theorem repL {v : Value} {k : Nat} : (List.replicate k [v]).flatten = List.replicate k v := by
  induction k with
  | zero => rfl
  | succ k ih => simp [List.replicate_succ, ih]
theorem repI {t : Tok} {x : Int} {k : Nat} : IntsAre (List.replicate k (Value.int x t)) (List.replicate k x) := by
  induction k with
  | zero => exact .nil
  | succ k ih => exact .cons _ _ ih
theorem repK {A : Around} {l : Addr} {t u : Tok} {x y : Int} {Q : Value → Shared → Prop} (F : Fr h₀ L s.heap m) (N : News h₀ L s.heap news) (hl : s.heap.IsList l [Value.int y t].toArray) (h0 : 0 ≤ x) (h1 : x ≤ 256)
    (h : ∀ (D : Nat) h' vs, IntsAre vs (List.replicate x.toNat y) → Fr h₀ L h' m → News h₀ L h' ((D, listOf vs.toArray 0) :: news) → AllLt D news → Q (.ref D) { s with heap := h' }) : wpAny (model prog w) A (binaryOp .Mult (.ref l) (.int x u)) Q E s :=
  KMa.mul F N hl (by omega) (by omega) (by simp only [List.length_cons, List.length_nil]; omega) repL fun D h' F' N' l1 => h D h' _ repI F' N' (allLt_iff.mpr l1)
theorem lenK {A : Around} {l : Addr} {vs : List Value} {is : List Int} {k : Int} {Q : Value → Shared → Prop} (hl : s.heap.IsList l vs.toArray) (hI : IntsAre vs is) (hk : (is.length : Int) = k) (hf : k < 2 ^ 63)
    (h : Q (.int k (s.toks + 1)) { s with toks := s.toks + 1 + 1 }) : wpAny (model prog w) A (call (.builtin "len") [.ref l]) Q E s :=
  L_len hl (by rw [List.size_toArray, ia_len hI]; exact hk) hf h
theorem repN {D y : Int} (h : 0 ≤ D) : (((List.replicate D.toNat y).length : Nat) : Int) = D := by
  rw [List.length_replicate]
  omega
theorem trueI {A : Around} {a : Int} {t : Tok} {Q : Bool → Shared → Prop} (e : a ≠ 0) (h : Q true s) : wpAny (model prog w) A (truthy (.int a t)) Q E s :=
  truthy_int (by rw [show (a != 0) = true from by simpa using e]; exact h)
noncomputable def I2P (prog : Program) (w : World) (p : Program) (loose : List Str) (mean : ExcName → Option Value) (mg mb : Str → Option Value) (n : Int) (f kk D ne c1 c2 c3 : Nat) (fo o o1 o2 o3 : Obj) (k : Nat) : Prop :=
  ∀ (x lo hi : Int) (l l' : List Int), i2R n k x lo hi l = some l' → l.length ≤ 256 →
  ∀ (dp un : Nat) (gd : Option (List Code)) (cn : Str) (cs : Scope) (a : Addr) (ccd : Value) (cl : List (Str × Addr)) (outer : List Env) (A₀ : Around) (base h₀ : Heap) (L : Addr) (m : Str → Option Value) (s : Shared) (Q E : Value → Shared → Prop) (news : List (Addr × Obj)) (vs : List Value) (t1 t2 t3 : Tok),
  (∀ p ∈ news, p.1 ≠ D) → cs.kind = .function → IntsAre vs l → dp + k + 1 < recursionLimit →
  Below A₀ base outer h₀ → Fr h₀ L s.heap m → (Mine.hd.heap_39 w.params).In h₀ → Top p loose mean mg mb h₀ →
  News h₀ L s.heap ((f, fo) :: (kk, o) :: (D, listOf vs.toArray ne) :: (c1, o1) :: (c2, o2) :: (c3, o3) :: news) →
  (∀ vs' h' tk', IntsAre vs' l' → Fr h₀ L h' m → News h₀ L h' ((f, fo) :: (kk, o) :: (D, listOf vs'.toArray ne) :: (c1, o1) :: (c2, o2) :: (c3, o3) :: news) → Q .none { s with heap := h', toks := tk' }) →
  wpAny (model prog w) (ktrTop dp un gd cn cs L a ccd cl outer) (call (.ref f) [.int x t1, .int lo t2, .int hi t3]) Q E s
theorem I2P.go {n : Int} {f kk D ne c1 c2 c3 : Nat} {fo o o1 o2 o3 : Obj} {k : Nat} {x lo hi : Int} {l l' : List Int} {vs : List Value} {t1 t2 t3 : Tok} (P : I2P prog w p loose mean mg mb n f kk D ne c1 c2 c3 fo o o1 o2 o3 k) (hR : i2R n k x lo hi l = some l') (hl : l.length ≤ 256)
    (nD : ∀ p ∈ news, p.1 ≠ D) (hk : cs.kind = .function) (hI : IntsAre vs l) (hd : dp + k + 1 < recursionLimit) (B : Below A₀ base outer h₀) (F : Fr h₀ L s.heap m) (X : (Mine.hd.heap_39 w.params).In h₀) (T : Top p loose mean mg mb h₀)
    (N : News h₀ L s.heap ((f, fo) :: (kk, o) :: (D, listOf vs.toArray ne) :: (c1, o1) :: (c2, o2) :: (c3, o3) :: news))
    (hQ : ∀ vs' h' tk', IntsAre vs' l' → Fr h₀ L h' m → News h₀ L h' ((f, fo) :: (kk, o) :: (D, listOf vs'.toArray ne) :: (c1, o1) :: (c2, o2) :: (c3, o3) :: news) → Q .none { s with heap := h', toks := tk' }) :
    wpAny (model prog w) (ktrTop dp un gd cn cs L a ccd cl outer) (call (.ref f) [.int x t1, .int lo t2, .int hi t3]) Q E s :=
  P x lo hi l l' hR hl dp un gd cn cs a ccd cl outer A₀ base h₀ L m s Q E news vs t1 t2 t3 nD hk hI hd B F X T N hQ
theorem i2_len {n : Int} : ∀ {k : Nat} {x lo hi : Int} {l l' : List Int}, i2R n k x lo hi l = some l' → l'.length = l.length := by
  intro k
  induction k with
  | zero => intro x lo hi l l' h; cases h
  | succ k ih =>
    intro x lo hi l l' h
    by_cases e : lo + 1 = hi
    · obtain ⟨_, _, rfl⟩ := i2R_base h e
      simp
    · obtain ⟨l1, _, _, _, _, _, _, _, _, _, _, _, _, e1, e2⟩ := i2R_step h e
      rw [ih e2, ih e1]
theorem Off.one {a : Nat} : ∀ {l : List (Addr × Obj)}, (∀ p ∈ l, p.1 ≠ a) → Off a a l l := by
  intro l
  induction l with
  | nil => intro _; exact .nil
  | cons q r ih => intro h; exact .keep (h q (List.Mem.head _)) (h q (List.Mem.head _)) (ih fun p hp => h p (List.Mem.tail _ hp))
theorem I2P.use {n : Int} {f kk D ne c1 c2 c3 : Nat} {fo o o1 o2 o3 : Obj} {k : Nat} {x lo hi : Int} {l l' : List Int} {vs : List Value} {t1 t2 t3 : Tok} {full rest : List (Addr × Obj)} (N : News h₀ L s.heap full)
    (m1 : ((f, fo) : Addr × Obj) ∈ full) (m2 : ((kk, o) : Addr × Obj) ∈ full) (m3 : ((D, listOf vs.toArray ne) : Addr × Obj) ∈ full) (m4 : ((c1, o1) : Addr × Obj) ∈ full) (m5 : ((c2, o2) : Addr × Obj) ∈ full) (m6 : ((c3, o3) : Addr × Obj) ∈ full) (O : Off D D full rest)
    (P : ∀ k, I2P prog w p loose mean mg mb n f kk D ne c1 c2 c3 fo o o1 o2 o3 k) (hR : i2R n k x lo hi l = some l') (hl : l.length ≤ 256)
    (hk : cs.kind = .function) (hI : IntsAre vs l) (hd : dp + k + 1 < recursionLimit) (B : Below A₀ base outer h₀) (F : Fr h₀ L s.heap m) (X : (Mine.hd.heap_39 w.params).In h₀) (T : Top p loose mean mg mb h₀)
    (hQ : ∀ vs' h' tk', IntsAre vs' l' → Fr h₀ L h' m → News h₀ L h' ((f, fo) :: (kk, o) :: (D, listOf vs'.toArray ne) :: (c1, o1) :: (c2, o2) :: (c3, o3) :: rest) → Q .none { s with heap := h', toks := tk' }) :
    wpAny (model prog w) (ktrTop dp un gd cn cs L a ccd cl outer) (call (.ref f) [.int x t1, .int lo t2, .int hi t3]) Q E s := by
  refine (P k).go hR hl (fun p hp => (O.sub p hp).2.1) hk hI hd B F X T (cb_drop N ?_) hQ
  exact List.forall_mem_cons.mpr ⟨m1, List.forall_mem_cons.mpr ⟨m2, List.forall_mem_cons.mpr ⟨m3, List.forall_mem_cons.mpr ⟨m4, List.forall_mem_cons.mpr ⟨m5, List.forall_mem_cons.mpr ⟨m6, fun p hp => (O.sub p hp).1⟩⟩⟩⟩⟩⟩
end Mine
namespace Mine
variable {prog : Program} {w : World} {p : Program} {loose : List Str} {mean : ExcName → Option Value} {mg mb : Str → Option Value} {dp un : Nat} {gd : Option (List Code)} {cn : Str} {cs : Scope} {a : Addr} {ccd : Value} {cl : List (Str × Addr)} {outer : List Env} {A₀ : Around} {base h₀ : Heap} {L : Addr} {m : Str → Option Value} {s : Shared} {Q : Value → Shared → Prop} {E : Value → Shared → Prop} {news : List (Addr × Obj)}
/-- what `_digits2int`'s inner yields -/
noncomputable def d2R (n : Int) (l : List Int) : Nat → Int → Int → Option Int
  | 0, _, _ => none
  | k + 1, lo, hi =>
    if lo + 1 = hi then (if 0 ≤ lo ∧ lo < l.length then some (l.getD lo.toNat 0) else none)
    else
      let mid := (lo + hi).fdiv (2 ^ (1 : Int).toNat)
      let sh := (mid - lo) * n
      if 0 ≤ sh ∧ sh ≤ 1000000 ∧ Builtin.Int.intBits (mid - lo) ≤ 64 then
        match d2R n l k mid hi with
        | some u => if u.natAbs < 2 ^ 64 then (match d2R n l k lo mid with | some v => some (u * 2 ^ sh.toNat + v) | none => none) else none
        | none => none
      else none
theorem d2R_base {n lo hi r : Int} {k : Nat} {l : List Int} (h : d2R n l (k + 1) lo hi = some r) (e : lo + 1 = hi) : 0 ≤ lo ∧ lo < l.length ∧ r = l.getD lo.toNat 0 := by
  unfold d2R at h
  rw [if_pos e] at h
  split at h
  · next q => cases h; exact ⟨q.1, q.2, rfl⟩
  · cases h
theorem d2R_step {n lo hi r : Int} {k : Nat} {l : List Int} (h : d2R n l (k + 1) lo hi = some r) (e : lo + 1 ≠ hi) :
    ∃ u v mid sh up, (lo + hi).fdiv (2 ^ (1 : Int).toNat) = mid ∧ (mid - lo) * n = sh ∧ u * 2 ^ sh.toNat = up ∧ 0 ≤ sh ∧ sh ≤ 1000000 ∧ u.natAbs < 2 ^ 64 ∧ Builtin.Int.intBits (mid - lo) ≤ 64 ∧
      d2R n l k mid hi = some u ∧ d2R n l k lo mid = some v ∧ r = up + v := by
  unfold d2R at h
  rw [if_neg e] at h
  dsimp only at h
  split at h
  · next q =>
    split at h
    · next u e1 =>
      split at h
      · next q2 =>
        split at h
        · next v e2 => cases h; exact ⟨u, v, _, _, _, rfl, rfl, rfl, q.1, q.2.1, q2, q.2.2, e1, e2, rfl⟩
        · cases h
      · cases h
    · cases h
  · cases h
noncomputable def D2P (prog : Program) (w : World) (p : Program) (loose : List Str) (mean : ExcName → Option Value) (mg mb : Str → Option Value) (n : Int) (l : List Int) (vs : List Value) (f kk D ne c1 c2 c3 : Nat) (fo o o1 o2 o3 : Obj) (k : Nat) : Prop :=
  ∀ (lo hi r : Int), d2R n l k lo hi = some r →
  ∀ (dp un : Nat) (gd : Option (List Code)) (cn : Str) (cs : Scope) (a : Addr) (ccd : Value) (cl : List (Str × Addr)) (outer : List Env) (A₀ : Around) (base h₀ : Heap) (L : Addr) (m : Str → Option Value) (s : Shared) (Q E : Value → Shared → Prop) (news : List (Addr × Obj)) (t2 t3 : Tok),
  cs.kind = .function → dp + k + 1 < recursionLimit →
  Below A₀ base outer h₀ → Fr h₀ L s.heap m → (Mine.hd.heap_39 w.params).In h₀ → Top p loose mean mg mb h₀ →
  News h₀ L s.heap ((f, fo) :: (kk, o) :: (D, listOf vs.toArray ne) :: (c1, o1) :: (c2, o2) :: (c3, o3) :: news) →
  (∀ h' tk' t, Fr h₀ L h' m → News h₀ L h' ((f, fo) :: (kk, o) :: (D, listOf vs.toArray ne) :: (c1, o1) :: (c2, o2) :: (c3, o3) :: news) → Q (.int r t) { s with heap := h', toks := tk' }) →
  wpAny (model prog w) (ktrTop dp un gd cn cs L a ccd cl outer) (call (.ref f) [.int lo t2, .int hi t3]) Q E s
theorem D2P.go {n : Int} {l : List Int} {vs : List Value} {f kk D ne c1 c2 c3 : Nat} {fo o o1 o2 o3 : Obj} {k : Nat} {lo hi r : Int} {t2 t3 : Tok} (P : D2P prog w p loose mean mg mb n l vs f kk D ne c1 c2 c3 fo o o1 o2 o3 k) (hR : d2R n l k lo hi = some r)
    (hk : cs.kind = .function) (hd : dp + k + 1 < recursionLimit) (B : Below A₀ base outer h₀) (F : Fr h₀ L s.heap m) (X : (Mine.hd.heap_39 w.params).In h₀) (T : Top p loose mean mg mb h₀)
    (N : News h₀ L s.heap ((f, fo) :: (kk, o) :: (D, listOf vs.toArray ne) :: (c1, o1) :: (c2, o2) :: (c3, o3) :: news))
    (hQ : ∀ h' tk' t, Fr h₀ L h' m → News h₀ L h' ((f, fo) :: (kk, o) :: (D, listOf vs.toArray ne) :: (c1, o1) :: (c2, o2) :: (c3, o3) :: news) → Q (.int r t) { s with heap := h', toks := tk' }) :
    wpAny (model prog w) (ktrTop dp un gd cn cs L a ccd cl outer) (call (.ref f) [.int lo t2, .int hi t3]) Q E s :=
  P lo hi r hR dp un gd cn cs a ccd cl outer A₀ base h₀ L m s Q E news t2 t3 hk hd B F X T N hQ
theorem D2P.use {n : Int} {l : List Int} {f kk D ne c1 c2 c3 : Nat} {fo o o1 o2 o3 : Obj} {k : Nat} {lo hi r : Int} {vs : List Value} {t2 t3 : Tok} {full : List (Addr × Obj)} (N : News h₀ L s.heap full)
    (m1 : ((f, fo) : Addr × Obj) ∈ full) (m2 : ((kk, o) : Addr × Obj) ∈ full) (m3 : ((D, listOf vs.toArray ne) : Addr × Obj) ∈ full) (m4 : ((c1, o1) : Addr × Obj) ∈ full) (m5 : ((c2, o2) : Addr × Obj) ∈ full) (m6 : ((c3, o3) : Addr × Obj) ∈ full)
    (P : ∀ k, D2P prog w p loose mean mg mb n l vs f kk D ne c1 c2 c3 fo o o1 o2 o3 k) (hR : d2R n l k lo hi = some r)
    (hk : cs.kind = .function) (hd : dp + k + 1 < recursionLimit) (B : Below A₀ base outer h₀) (F : Fr h₀ L s.heap m) (X : (Mine.hd.heap_39 w.params).In h₀) (T : Top p loose mean mg mb h₀)
    (hQ : ∀ h' tk' t, Fr h₀ L h' m → News h₀ L h' full → Q (.int r t) { s with heap := h', toks := tk' }) :
    wpAny (model prog w) (ktrTop dp un gd cn cs L a ccd cl outer) (call (.ref f) [.int lo t2, .int hi t3]) Q E s := by
  refine (P k).go hR hk hd B F X T (news := full) (cb_drop N ?_) (fun h' tk' t F' N' => hQ h' tk' t F' fun p hp => N' p (List.Mem.tail _ (List.Mem.tail _ (List.Mem.tail _ (List.Mem.tail _ (List.Mem.tail _ (List.Mem.tail _ hp)))))))
  exact List.forall_mem_cons.mpr ⟨m1, List.forall_mem_cons.mpr ⟨m2, List.forall_mem_cons.mpr ⟨m3, List.forall_mem_cons.mpr ⟨m4, List.forall_mem_cons.mpr ⟨m5, List.forall_mem_cons.mpr ⟨m6, fun p hp => hp⟩⟩⟩⟩⟩⟩
end Mine
section
local macro_rules | `(tactic| walk_at "binaryOp Add int int") => `(tactic| (refine' Mine.L_add rfl ?_; k_whole))
local macro_rules | `(tactic| walk_at "binaryOp Sub int int") => `(tactic| (refine' Mine.L_sub rfl ?_; k_whole))
local macro_rules | `(tactic| walk_at "binaryOp Mult int int") => `(tactic| (refine' Mine.L_mul ?hk ?hm ?_; (case hk => first | assumption | exact rfl); (case hm => exact PySem.IntMulOk.of_left (by assumption)); k_whole))
local macro_rules | `(tactic| walk_at "binaryOp LShift int int") => `(tactic| (refine' Mine.L_shl ?h0 ?h1 ?h2 ?hk ?_; (case h0 => omega); (case h1 => omega); (case h2 => assumption); (case hk => first | assumption | exact rfl); k_whole))
local macro_rules | `(tactic| walk_at "binaryOp RShift int int") => `(tactic| (refine' Mine.L_shr ?h0 ?hk ?_; (case h0 => omega); (case hk => assumption); k_whole))
local macro_rules | `(tactic| walk_at "binaryOp BitXor int int") => `(tactic| (refine' Mine.L_xor ?hk ?_; (case hk => assumption); k_whole))
local macro_rules | `(tactic| walk_at "compareOp Eq int int") => `(tactic| (first | (refine' Mine.eqT ?h ?_; (case h => assumption); k_whole) | (refine' Mine.eqF ?h ?_; (case h => assumption); k_whole)))
local macro_rules | `(tactic| walk_at "setItem ref int") => `(tactic| (k_here; k_dflt (refine' Mine.setK ?F ?N ?I ?a ?b ?c ?U ?_; (case F => k_asm); (case N => k_asm); (case I => assumption); (case a => omega); (case b => assumption); (case c => omega); (case U => k_upd); k_whole); intro h' hI' F' N'; (try k_sweep)))
local macro_rules | `(tactic| walk_at "binaryOp Mult ref int") => `(tactic| (k_dflt (refine' Mine.repK ?F ?N ?l ?lo ?hi ?_; (case F => k_asm); (case N => k_asm); (case l => is_list); (case lo => omega); (case hi => omega); k_whole); intro D' h' vs' hI' F' N' l1; (try simp only [AllLt, and_true] at l1); (try k_sweep)))
local macro_rules | `(tactic| walk_at "call builtin:len") => `(tactic| (k_dflt (refine' Mine.lenK ?l ?I ?hk ?hf ?_; (case l => is_list); (case I => assumption); (case hk => first | assumption | exact Mine.repN (by omega)); (case hf => omega); k_whole)))
local macro_rules | `(tactic| walk_at "exec FunctionDef") => `(tactic| (k_here; k_dflt (refine' nestDef_K ?d0 ?k0 ?a0 ?_; (case d0 => exact rfl); (case k0 => exact rfl); (case a0 => exact rfl)); k_dflt (refine' Mine.nestU ?F ?N ?T ?C ?cd ?mem ?km ?tab ?O ?cl ?_; (case F => k_asm); (case N => k_asm); (case T => k_asm); (case cd => exact rfl); (case C => kn_code); (case mem => k_mem); (case tab => assumption); (case km => k_mem); (case O => repeat (first | exact Mine.Off.one (by assumption) | exact Mine.Off.nil | (apply Mine.Off.keep; omega; omega) | apply Mine.Off.drop)); (case cl => exact rfl); k_whole); intro f' k' o' vs' t' ct' dc' h' tk' F' N' d1' d2' p1 p2 l1 l2; (try dsimp only at N'); (try simp only [AllLt, and_true] at l2 p1)))
local macro_rules | `(tactic| walk_at "truthy int") => `(tactic| (refine' Mine.trueI ?h ?_; (case h => assumption); k_whole))
section
local macro_rules | `(tactic| walk_at "call ref") => `(tactic| ((with_reducible show wpAny _ _ (call _ _) _ _ _); refine Mine.hold ?_))
local macro_rules | `(tactic| walk_at "call ref") => `(tactic| (k_here; k_dflt (refine' Mine.I2P.go ?P ?R ?l ?n ?k ?I ?d ?B ?F ?X ?T ?N ?_; (case P => with_reducible assumption); (case R => with_reducible assumption); (case l => omega); (case n => assumption); (case k => exact rfl); (case I => with_reducible assumption); (case d => k_room); (case B => k_asm); (case F => k_asm); (case X => k_asm); (case T => k_asm); (case N => k_asm); k_whole; intro vs' h' tk' hI' F' N'; (try k_sweep))))
namespace Mine
variable {prog : Program} {w : World} {p : Program} {loose : List Str} {mean : ExcName → Option Value} {mg mb : Str → Option Value} {dp un : Nat} {gd : Option (List Code)} {cn : Str} {cs : Scope} {a : Addr} {ccd : Value} {cl : List (Str × Addr)} {outer : List Env} {A₀ : Around} {base h₀ : Heap} {L : Addr} {m : Str → Option Value} {s : Shared} {Q : Value → Shared → Prop} {E : Value → Shared → Prop} {news : List (Addr × Obj)}
set_option maxHeartbeats 8000000 in
theorem c_i2 {k1 : Nat} {o1 : Obj} {ps : Array Value} {z n D : Int} {l' : List Int} {t1 t2 : Tok} (tab : Tab 75 4 qI ps k1 o1) (h51 : 51 < k1) (n51 : ∀ p ∈ news, p.1 ≠ 51)
  (hn : 1 ≤ n) (hpl : Builtin.divisionGoesByPylong (((Builtin.Int.intBits z : Nat) : Int) + n - 1) n = false) (hD : (((Builtin.Int.intBits z : Nat) : Int) + n - 1).fdiv n = D) (hD0 : 0 ≤ D) (hD1 : D ≤ 256) (hz : z ≠ 0) (hR : i2R n 6 z 0 D (List.replicate D.toNat 0) = some l')
  (B : Below A₀ base outer h₀) (F : Fr h₀ L s.heap m) (X : (Mine.hd.heap_39 w.params).In h₀) (C55 : CodeHd base 55 51) (N : News h₀ L s.heap (((51 : Nat), tabObj ps) :: (k1, o1) :: news)) (T : Top p loose mean mg mb h₀) (hk : cs.kind = .function)
  (hd : dp + 10 < recursionLimit)
  (hQ : ∀ (k' : Nat) (o' : Obj) (D : Nat) (h' : Heap) (tk' : Nat) (vs : List Value), IsCo o' qI → 51 < k' → ((ps ≠ #[] ∧ k' = k1 ∧ o' = o1) ∨ AllLt k' news) → (ps ≠ #[] → k' = k1 ∧ o' = o1) → 51 < D → AllLt D news → IntsAre vs l' → Fr h₀ L h' m → News h₀ L h' ((D, listOf vs.toArray 0) :: ((51 : Nat), tabObj #[rawInt 75, rawInt 4, .ref k']) :: (k', o') :: news) → Q (.ref D) { s with heap := h', toks := tk' }) :
  wpAny (model prog w) (ktrTop dp un gd cn cs L a ccd cl outer) (call (.ref 56) [.int z t1, .int n t2]) Q E s := by
  obtain ⟨ck, cnames, c3, c4, c5⟩ := cs
  dsimp only at hk
  subst hk
  refine wpAny_call ?_
  k_enter
  k_steps
  all_goals refine (show wpAny _ _ _ _ _ _ from ?_)
  rename Fr _ _ _ _ => F'
  rename News _ _ _ _ => N'
  k_dflt (refine' I2P.use N' ?m1 ?m2 ?m3 ?m4 ?m5 ?m6 ?O ?ind hR ?hl ?hk ?hI ?hd ?B F' ?X ?T ?fin; (case m1 => exact List.Mem.head _); (case m2 => exact List.Mem.tail _ (List.Mem.head _)); (case m3 => exact List.Mem.tail _ (List.Mem.tail _ (List.Mem.tail _ (List.Mem.head _)))); (case m4 => exact List.Mem.tail _ (List.Mem.tail _ (List.Mem.tail _ (List.Mem.tail _ (List.Mem.tail _ (List.Mem.head _)))))); (case m5 => exact List.Mem.tail _ (List.Mem.tail _ (List.Mem.tail _ (List.Mem.tail _ (List.Mem.tail _ (List.Mem.tail _ (List.Mem.head _))))))); (case m6 => exact List.Mem.tail _ (List.Mem.tail _ (List.Mem.tail _ (List.Mem.tail _ (List.Mem.tail _ (List.Mem.tail _ (List.Mem.tail _ (List.Mem.head _)))))))); (case O => refine .drop (.drop (.keep ?o1 ?o1 (.drop (.drop (.drop (.drop (.drop (.drop (.one ?o2))))))))); (case o1 => omega); (case o2 => k_all)); (case hl => rw [List.length_replicate]; omega); (case hk => exact rfl); (case hI => assumption); (case hd => k_room); (case B => k_asm); (case X => k_asm); (case T => k_asm))
  case ind =>
    clear F' N' hQ hR
    rename _ ∨ _ => p1
    have hkD : ¬ k1 = 51 := by omega
    intro k
    induction k with
    | zero => exact fun x lo hi l l' h => nomatch h
    | succ k ih =>
      intro x lo hi l l' hR hl dp un gd cn cs a ccd cl outer A₀ base h₀ L m s Q E news vs t1 t2 t3 nD hk hI hd B F X T N hQ
      obtain ⟨ck, cnames, c3, c4, c5⟩ := cs
      dsimp only at hk
      subst hk
      refine wpAny_call ?_
      by_cases e : lo + 1 = hi
      · obtain ⟨e0, e1, rfl⟩ := i2R_base hR e
        kn_enter
        k_steps
        exact hQ _ _ _ (by assumption) (by assumption) (by assumption)
      · obtain ⟨l1, mid, sh, up, lw, q1, q2, q3, q4, q5, q6, q7, q8, r1, r2⟩ := i2R_step hR e
        have hl1 : l1.length ≤ 256 := by rw [i2_len r1]; exact hl
        kn_enter
        k_steps
        exact hQ _ _ _ (by assumption) (by assumption) (by assumption)
  case fin =>
    clear F' N'
    intro vs9 h9 tk9 hI9 F9 N9
    refine (show wpAny _ _ (execs _ _) _ _ _ from ?_)
    k_steps
    rename _ ∨ _ => p1
    refine' hQ _ _ _ _ _ _ ?i ?a1 ?a2 ?ap ?a3 ?a4 hI9 ?cf ?cn
    case cf => assumption
    case cn =>
      refine cb_drop (by assumption) ?_
      (refine (List.forall_mem_cons.mpr ⟨?_, List.forall_mem_cons.mpr ⟨?_, List.forall_mem_cons.mpr ⟨?_, ?_⟩⟩⟩); k_mem; k_mem; k_mem; (intro q hq; repeat (first | exact hq | refine List.Mem.tail _ ?_)))
    case i => exact isCo_of (by assumption) (by assumption) (by kernel_rfl)
    case a1 =>
      rcases p1 with q | q
      · rw [q.2.1]; exact h51
      · exact q.1
    case a2 =>
      rcases p1 with q | q
      · exact .inl q
      · right
        (first | assumption | exact (And.right (by assumption)) | exact (And.right (And.right (by assumption))) | exact (And.right (And.right (And.right (by assumption)))) | exact (And.right (And.right (And.right (And.right (by assumption))))) | exact (And.right (And.right (And.right (And.right (And.right (by assumption)))))) | exact (And.right (And.right (And.right (And.right (And.right (And.right (by assumption))))))) | exact (And.right (And.right (And.right (And.right (And.right (And.right (And.right (by assumption)))))))) | exact (And.right (And.right (And.right (And.right (And.right (And.right (And.right (And.right (by assumption))))))))) | exact (And.right (And.right (And.right (And.right (And.right (And.right (And.right (And.right (And.right (by assumption)))))))))) | exact (And.right (And.right (And.right (And.right (And.right (And.right (And.right (And.right (And.right (And.right (by assumption))))))))))) | exact (And.right (And.right (And.right (And.right (And.right (And.right (And.right (And.right (And.right (And.right (And.right (by assumption)))))))))))) | exact (And.right (And.right (And.right (And.right (And.right (And.right (And.right (And.right (And.right (And.right (And.right (And.right (by assumption))))))))))))) | exact (And.right (And.right (And.right (And.right (And.right (And.right (And.right (And.right (And.right (And.right (And.right (And.right (And.right (by assumption)))))))))))))))
    case ap => assumption
    case a3 => omega
    case a4 => (first | assumption | exact (And.right (by assumption)) | exact (And.right (And.right (by assumption))) | exact (And.right (And.right (And.right (by assumption)))) | exact (And.right (And.right (And.right (And.right (by assumption))))) | exact (And.right (And.right (And.right (And.right (And.right (by assumption)))))) | exact (And.right (And.right (And.right (And.right (And.right (And.right (by assumption))))))) | exact (And.right (And.right (And.right (And.right (And.right (And.right (And.right (by assumption)))))))) | exact (And.right (And.right (And.right (And.right (And.right (And.right (And.right (And.right (by assumption))))))))) | exact (And.right (And.right (And.right (And.right (And.right (And.right (And.right (And.right (And.right (by assumption)))))))))) | exact (And.right (And.right (And.right (And.right (And.right (And.right (And.right (And.right (And.right (And.right (by assumption))))))))))) | exact (And.right (And.right (And.right (And.right (And.right (And.right (And.right (And.right (And.right (And.right (And.right (by assumption)))))))))))) | exact (And.right (And.right (And.right (And.right (And.right (And.right (And.right (And.right (And.right (And.right (And.right (And.right (by assumption))))))))))))) | exact (And.right (And.right (And.right (And.right (And.right (And.right (And.right (And.right (And.right (And.right (And.right (And.right (And.right (by assumption)))))))))))))))
end Mine
end
section
local macro_rules | `(tactic| walk_at "call ref") => `(tactic| ((with_reducible show wpAny _ _ (call _ _) _ _ _); refine Mine.hold ?_))
local macro_rules | `(tactic| walk_at "call ref") => `(tactic| (k_here; k_dflt (refine' Mine.D2P.go ?P ?R ?k ?d ?B ?F ?X ?T ?N ?_; (case P => with_reducible assumption); (case R => with_reducible assumption); (case k => exact rfl); (case d => k_room); (case B => k_asm); (case F => k_asm); (case X => k_asm); (case T => k_asm); (case N => k_asm); k_whole; intro h' tk' t' F' N'; (try k_sweep))))
local macro_rules | `(tactic| walk_at "none 1") => `(tactic| fail)
namespace Mine
variable {prog : Program} {w : World} {p : Program} {loose : List Str} {mean : ExcName → Option Value} {mg mb : Str → Option Value} {dp un : Nat} {gd : Option (List Code)} {cn : Str} {cs : Scope} {a : Addr} {ccd : Value} {cl : List (Str × Addr)} {outer : List Env} {A₀ : Around} {base h₀ : Heap} {L : Addr} {m : Str → Option Value} {s : Shared} {Q : Value → Shared → Prop} {E : Value → Shared → Prop} {news : List (Addr × Obj)}
set_option maxHeartbeats 8000000 in
theorem c_d2 {k1 D ne : Nat} {o1 : Obj} {ps : Array Value} {n r : Int} {l : List Int} {vs : List Value} {t2 : Tok} (tab : Tab 90 4 qD ps k1 o1) (h58 : 58 < k1) (n58 : ∀ p ∈ news, p.1 ≠ 58) (hD58 : 58 < D)
  (hI : IntsAre vs l) (hl0 : 0 < l.length) (hl1 : l.length ≤ 256) (hR : d2R n l 6 0 l.length = some r)
  (B : Below A₀ base outer h₀) (F : Fr h₀ L s.heap m) (X : (Mine.hd.heap_39 w.params).In h₀) (C62 : CodeHd base 62 58) (N : News h₀ L s.heap (((58 : Nat), tabObj ps) :: (k1, o1) :: (D, listOf vs.toArray ne) :: news)) (T : Top p loose mean mg mb h₀) (hk : cs.kind = .function)
  (hd : dp + 10 < recursionLimit)
  (hQ : ∀ (k' : Nat) (o' : Obj) (h' : Heap) (tk' : Nat) (t : Tok), IsCo o' qD → 58 < k' → ((ps ≠ #[] ∧ k' = k1 ∧ o' = o1) ∨ AllLt k' ((D, listOf vs.toArray ne) :: news)) → (ps ≠ #[] → k' = k1 ∧ o' = o1) → Fr h₀ L h' m → News h₀ L h' (((58 : Nat), tabObj #[rawInt 90, rawInt 4, .ref k']) :: (k', o') :: (D, listOf vs.toArray ne) :: news) → Q (.int r t) { s with heap := h', toks := tk' }) :
  wpAny (model prog w) (ktrTop dp un gd cn cs L a ccd cl outer) (call (.ref 63) [.ref D, .int n t2]) Q E s := by
  obtain ⟨ck, cnames, c3, c4, c5⟩ := cs
  dsimp only at hk
  subst hk
  refine wpAny_call ?_
  k_enter
  k_steps
  all_goals refine (show wpAny _ _ _ _ _ _ from ?_)
  rename Fr _ _ _ _ => F'
  rename News _ _ _ _ => N'
  k_dflt (refine' D2P.use N' ?m1 ?m2 ?m3 ?m4 ?m5 ?m6 ?ind hR ?hk ?hd ?B F' ?X ?T ?fin; (case m1 => k_mem); (case m2 => exact List.Mem.tail _ (List.Mem.head _)); (case m3 => exact List.Mem.tail _ (List.Mem.tail _ (List.Mem.tail _ (List.Mem.tail _ (List.Mem.tail _ (List.Mem.tail _ (List.Mem.tail _ (List.Mem.head _)))))))); (case m4 => exact List.Mem.tail _ (List.Mem.tail _ (List.Mem.tail _ (List.Mem.head _)))); (case m5 => exact List.Mem.tail _ (List.Mem.tail _ (List.Mem.tail _ (List.Mem.tail _ (List.Mem.head _))))); (case m6 => exact List.Mem.tail _ (List.Mem.tail _ (List.Mem.tail _ (List.Mem.tail _ (List.Mem.tail _ (List.Mem.head _)))))); (case hk => exact rfl); (case hd => k_room); (case B => k_asm); (case X => k_asm); (case T => k_asm))
  case ind =>
    clear F' N' hQ hR
    intro k
    induction k with
    | zero => exact fun lo hi r h => nomatch h
    | succ k ih =>
      intro lo hi r hR dp un gd cn cs a ccd cl outer A₀ base h₀ L m s Q E news t2 t3 hk hd B F X T N hQ
      obtain ⟨ck, cnames, c3, c4, c5⟩ := cs
      dsimp only at hk
      subst hk
      refine wpAny_call ?_
      by_cases e : lo + 1 = hi
      · obtain ⟨e0, e1, rfl⟩ := d2R_base hR e
        kn_enter
        k_steps
        exact hQ _ _ _ (by assumption) (by assumption)
      · obtain ⟨u, v, mid, sh, up, q1, q2, q3, q4, q5, q6, q7, r1, r2, r3⟩ := d2R_step hR e
        subst r3
        kn_enter
        k_steps
        exact hQ _ _ _ (by assumption) (by assumption)
  case fin =>
    clear F' N'
    intro h9 tk9 t9 F9 N9
    k_steps
    rename _ ∨ _ => p1
    refine' hQ _ _ _ _ _ ?i ?a1 ?a2 ?ap ?cf ?cn
    case cf => assumption
    case cn =>
      refine cb_drop (by assumption) ?_
      (refine (List.forall_mem_cons.mpr ⟨?_, List.forall_mem_cons.mpr ⟨?_, List.forall_mem_cons.mpr ⟨?_, ?_⟩⟩⟩); k_mem; k_mem; k_mem; (intro q hq; repeat (first | exact hq | refine List.Mem.tail _ ?_)))
    case i => exact isCo_of (by assumption) (by assumption) (by kernel_rfl)
    case a1 =>
      rcases p1 with q | q
      · rw [q.2.1]; exact h58
      · exact q.1
    case a2 =>
      rcases p1 with q | q
      · exact .inl q
      · right
        exact ⟨q.2.2.2.2.2.1, q.2.2.2.2.2.2⟩
    case ap => assumption
end Mine
end
namespace Mine
variable {prog : Program} {w : World} {p : Program} {loose : List Str} {mean : ExcName → Option Value} {mg mb : Str → Option Value} {dp un : Nat} {gd : Option (List Code)} {cn : Str} {cs : Scope} {a : Addr} {ccd : Value} {cl : List (Str × Addr)} {outer : List Env} {A₀ : Around} {base h₀ : Heap} {L : Addr} {m : Str → Option Value} {s : Shared} {Q : Value → Shared → Prop} {E : Value → Shared → Prop} {news : List (Addr × Obj)}
section
variable {A : Around} {env : Env} {x : Str} {body : List Stmt} {h₀ : Heap} {I : Addr} {Q : Flow → Shared → Prop}
theorem UnrPost.mono {it : Obj} {s₁ : Shared} {R R' : (Str → Option Value) → List (Addr × Obj) → Prop} (hR : ∀ m n, R m n → R' m n) {f : Flow} {s₂ : Shared} (h : UnrPost h₀ L s₁ I it R Q f s₂) : UnrPost h₀ L s₁ I it R' Q f s₂ := by
  cases f with
  | ret v => exact h
  | brk => exact h
  | next => obtain ⟨h', tk, m', n', e, F, N, o, r⟩ := h; exact ⟨h', tk, m', n', e, F, N, o, hR _ _ r⟩
  | cont => obtain ⟨h', tk, m', n', e, F, N, o, r⟩ := h; exact ⟨h', tk, m', n', e, F, N, o, hR _ _ r⟩
theorem revRest_ind {lp : Addr × Obj} (J : List Value → (Str → Option Value) → List (Addr × Obj) → Prop)
    (zero : ∀ m news, J [] m news → ∀ h tk, Fr h₀ env.locals h m → News h₀ env.locals h news → Q .next { s with heap := h, toks := tk })
    (succ : ∀ v r m news, J (v :: r) m news → ∀ (it : Obj) h tk, it.cls = .type "list_reverseiterator" → Fr h₀ env.locals h (fun y => if y = x then some v else m y) → News h₀ env.locals h ((I, it) :: news) →
      wpAny (model prog w) A (execs body env) (UnrPost h₀ env.locals { s with heap := h, toks := tk } I it (fun m' n' => lp ∈ n' ∧ J r m' n') Q) E { s with heap := h, toks := tk }) :
    ∀ (vs : List Value) (m : Str → Option Value) (news : List (Addr × Obj)), J vs m news → RevRest prog w A E h₀ env x body Q s I lp vs m news := by
  intro vs
  induction vs with
  | nil => exact fun m news hj => RevRest.zero (zero m news hj)
  | cons v r ih => exact fun m news hj => RevRest.succ fun it h tk hc F N => wpAny_mono (succ v r m news hj it h tk hc F N) (fun f s₂ hh => UnrPost.mono (fun m' n' q => ⟨q.1, ih m' n' q.2⟩) hh) fun _ _ e => e
theorem rangeRest_ind {a : Int} {n : Nat} {m₀ : Str → Option Value} {news₀ : List (Addr × Obj)} (J : Nat → (Str → Option Value) → List (Addr × Obj) → Prop) (h0 : J 0 m₀ news₀)
    (zero : ∀ m news, J n m news → ∀ h tk, Fr h₀ env.locals h m → News h₀ env.locals h news → Q .next { s with heap := h, toks := tk })
    (succ : ∀ i m news, i < n → J i m news → ∀ (it : Obj) t h tk, Fr h₀ env.locals h (fun y => if y = x then some (.int (a + (i : Int)) t) else m y) → News h₀ env.locals h ((I, it) :: news) →
      wpAny (model prog w) A (execs body env) (UnrPost h₀ env.locals { s with heap := h, toks := tk } I it (J (i + 1)) Q) E { s with heap := h, toks := tk }) :
    RangeRest prog w A E h₀ env x body Q s I a n n 0 m₀ news₀ := by
  have key : ∀ k i m news, i + k = n → J i m news → RangeRest prog w A E h₀ env x body Q s I a n k i m news := by
    intro k
    induction k with
    | zero =>
      intro i m news e hj
      obtain rfl : i = n := by omega
      exact RangeRest.zero (zero m news hj)
    | succ k ih => exact fun i m news e hj => RangeRest.succ fun t h tk F N => wpAny_mono (succ i m news (by omega) hj _ t h tk F N) (fun f s₂ hh => UnrPost.mono (fun m' n' q => ih (i + 1) m' n' (by omega) q) hh) fun _ _ e => e
  exact key n 0 m₀ news₀ (by omega) h0
end
theorem ia_snoc {vs : List Value} {l : List Int} (h : IntsAre vs l) (x : Int) (t : Tok) : IntsAre (vs ++ [.int x t]) (l ++ [x]) := by
  induction h with
  | nil => exact .cons _ _ .nil
  | cons n u _ ih => exact .cons _ _ ih
theorem ia_rev {vs : List Value} {l : List Int} (h : IntsAre vs l) : IntsAre vs.reverse l.reverse := by
  induction h with
  | nil => exact .nil
  | cons n u _ ih => rw [List.reverse_cons, List.reverse_cons]; exact ia_snoc ih _ _
theorem appK {A : Around} {D : Addr} {vs : List Value} {l : List Int} {n : Nat} {x : Int} {t : Tok} {news' : List (Addr × Obj)} (F : Fr h₀ L s.heap m) (N : News h₀ L s.heap news)
    (U : Upd D (listOf vs.toArray n) (listOf (vs ++ [Value.int x t] : List Value).toArray (n + 1)) news news') (hI : IntsAre vs l) (hl : l.length ≤ 256)
    (h : ∀ h', IntsAre (vs ++ [.int x t]) (l ++ [x]) → Fr h₀ L h' m → News h₀ L h' news' → Q .none { s with heap := h' }) : wpAny (model prog w) A (call (.builtin "list.append") [.ref D, .int x t]) Q E s := by
  rw [show (vs ++ [Value.int x t] : List Value).toArray = vs.toArray.push (.int x t) from by simp] at U
  exact append_K F N U (fun h' F' N' => h h' (ia_snoc hI x t) F' N') (hsz := by rw [List.size_toArray, ia_len hI]; exact Nat.le_trans hl (by decide))
theorem revK {A : Around} {D : Addr} {vs : List Value} {l : List Int} {n : Nat} {news' : List (Addr × Obj)} (F : Fr h₀ L s.heap m) (N : News h₀ L s.heap news)
    (U : Upd D (listOf vs.toArray n) (listOf vs.reverse.toArray n) news news') (hI : IntsAre vs l) (hl : l.length ≤ 256)
    (h : ∀ h', IntsAre vs.reverse l.reverse → Fr h₀ L h' m → News h₀ L h' news' → Q .none { s with heap := h' }) : wpAny (model prog w) A (call (.builtin "list.reverse") [.ref D]) Q E s :=
  kl_reverse F N (by simp) U (by rw [show vs.toArray.toList = vs from rfl, ia_len hI]; exact Nat.le_trans hl (by decide)) (fun h' F' N' => h h' (ia_rev hI) F' N')
/-- the loop of `_divmod_pos` -/
noncomputable def dL (n b : Int) : List Int → Int → List Int → Option (List Int × Int)
  | [], r, qs => some (qs, r)
  | d :: ds, r, qs =>
    if r.natAbs < 2 ^ 64 ∧ Builtin.Int.intBits (r * 2 ^ n.toNat + d) ≤ 64 ∧ Builtin.divisionGoesByPylong (r * 2 ^ n.toNat + d) b = false then dL n b ds ((r * 2 ^ n.toNat + d).fmod b) (qs ++ [(r * 2 ^ n.toNat + d).fdiv b]) else none
theorem dL_cons {n b d r r' : Int} {ds qs ql : List Int} (h : dL n b (d :: ds) r qs = some (ql, r')) :
    r.natAbs < 2 ^ 64 ∧ Builtin.Int.intBits (r * 2 ^ n.toNat + d) ≤ 64 ∧ Builtin.divisionGoesByPylong (r * 2 ^ n.toNat + d) b = false ∧ dL n b ds ((r * 2 ^ n.toNat + d).fmod b) (qs ++ [(r * 2 ^ n.toNat + d).fdiv b]) = some (ql, r') := by
  unfold dL at h
  split at h
  · next q => exact ⟨q.1, q.2.1, q.2.2, h⟩
  · cases h
noncomputable def dmT (z b : Int) : Option (Int × Int) :=
  let n : Int := ((Builtin.Int.intBits b : Nat) : Int)
  let D := (((Builtin.Int.intBits z : Nat) : Int) + n - 1).fdiv n
  if 0 < z ∧ 0 < b ∧ 1 ≤ n ∧ n ≤ 64 ∧ Builtin.divisionGoesByPylong (((Builtin.Int.intBits z : Nat) : Int) + n - 1) n = false ∧ 0 ≤ D ∧ D ≤ 256 then
    match i2R n 6 z 0 D (List.replicate D.toNat 0) with
    | some l =>
      match dL n b l.reverse 0 [] with
      | some (ql, r) => if 0 < ql.length ∧ ql.length ≤ 256 ∧ l.length ≤ 256 then (match d2R n ql.reverse 6 0 ql.reverse.length with | some q => some (q, r) | none => none) else none
      | none => none
    | none => none
  else none
theorem dmT_out {z b q r : Int} (h : dmT z b = some (q, r)) : ∃ n D l ql, ((Builtin.Int.intBits b : Nat) : Int) = n ∧ (((Builtin.Int.intBits z : Nat) : Int) + n - 1).fdiv n = D ∧ 0 < z ∧ 0 < b ∧ 1 ≤ n ∧ n ≤ 64 ∧ Builtin.divisionGoesByPylong (((Builtin.Int.intBits z : Nat) : Int) + n - 1) n = false ∧ 0 ≤ D ∧ D ≤ 256 ∧
    i2R n 6 z 0 D (List.replicate D.toNat 0) = some l ∧ dL n b l.reverse 0 [] = some (ql, r) ∧ 0 < ql.reverse.length ∧ ql.reverse.length ≤ 256 ∧ l.length ≤ 256 ∧ d2R n ql.reverse 6 0 ql.reverse.length = some q := by
  unfold dmT at h
  dsimp only at h
  split at h
  · next c =>
    split at h
    · next l e1 =>
      split at h
      · next ql r' e2 =>
        split at h
        · next c2 =>
          split at h
          · next q' e3 =>
            cases h
            exact ⟨_, _, l, ql, rfl, rfl, c.1, c.2.1, c.2.2.1, c.2.2.2.1, c.2.2.2.2.1, c.2.2.2.2.2.1, c.2.2.2.2.2.2, e1, e2, by simpa using c2.1, by simpa using c2.2.1, c2.2.2, e3⟩
          · cases h
        · cases h
      · cases h
    · cases h
  · cases h
theorem ia_cons {v : Value} {vs : List Value} {l : List Int} (h : IntsAre (v :: vs) l) : ∃ d t r, v = .int d t ∧ l = d :: r ∧ IntsAre vs r := by
  cases h with
  | cons n u h => exact ⟨_, _, _, rfl, rfl, h⟩
theorem fr_puts0 {h : Heap} (l : List (Str × Option Value)) {m : Str → Option Value} (F : Fr h₀ L h m) (hl : ∀ p ∈ l, m p.1 = p.2) : Fr h₀ L h (l.foldr (fun p g => fun z => if z = p.1 then p.2 else g z) m) := by
  have : ∀ (l : List (Str × Option Value)), (∀ p ∈ l, m p.1 = p.2) → l.foldr (fun p g => fun z => if z = p.1 then p.2 else g z) m = m := by
    intro l
    induction l with
    | nil => intro _; rfl
    | cons q r ih =>
      intro hq
      rw [List.foldr_cons, ih fun p hp => hq p (List.Mem.tail _ hp)]
      funext z
      by_cases e : z = q.1
      · rw [if_pos e, e, hq q (List.Mem.head _)]
      · rw [if_neg e]
  rw [this l hl]
  exact F
end Mine
namespace Mine
variable {prog : Program} {w : World} {p : Program} {loose : List Str} {mean : ExcName → Option Value} {mg mb : Str → Option Value} {dp un : Nat} {gd : Option (List Code)} {cn : Str} {cs : Scope} {a : Addr} {ccd : Value} {cl : List (Str × Addr)} {outer : List Env} {A₀ : Around} {base h₀ : Heap} {L : Addr} {m : Str → Option Value} {s : Shared} {Q : Value → Shared → Prop} {E : Value → Shared → Prop} {news : List (Addr × Obj)}
theorem ki2 {full rest : List (Addr × Obj)} {k1 : Nat} {o1 : Obj} {ps : Array Value} {z n D : Int} {l' : List Int} {t1 t2 : Tok} (N : News h₀ L s.heap full) (m1 : (((51 : Nat), tabObj ps) : Addr × Obj) ∈ full) (m2 : ((k1, o1) : Addr × Obj) ∈ full) (O : Off 51 51 full rest) (tab : Tab 75 4 qI ps k1 o1) (h51 : 51 < k1)
  (hR : i2R n 6 z 0 D (List.replicate D.toNat 0) = some l') (hD : (((Builtin.Int.intBits z : Nat) : Int) + n - 1).fdiv n = D) (hn : 1 ≤ n) (hpl : Builtin.divisionGoesByPylong (((Builtin.Int.intBits z : Nat) : Int) + n - 1) n = false) (hD0 : 0 ≤ D) (hD1 : D ≤ 256) (hz : 0 < z)
  (B : Below A₀ base outer h₀) (F : Fr h₀ L s.heap m) (X : (Mine.hd.heap_39 w.params).In h₀) (C55 : CodeHd base 55 51) (T : Top p loose mean mg mb h₀) (hk : cs.kind = .function)
  (hd : dp + 10 < recursionLimit)
  (hQ : ∀ (k' : Nat) (o' : Obj) (D : Nat) (h' : Heap) (tk' : Nat) (vs : List Value), IsCo o' qI → 51 < k' → ((ps ≠ #[] ∧ k' = k1 ∧ o' = o1) ∨ AllLt k' rest) → (ps ≠ #[] → k' = k1 ∧ o' = o1) → 51 < D → AllLt D rest → IntsAre vs l' → Fr h₀ L h' m → News h₀ L h' ((D, listOf vs.toArray 0) :: ((51 : Nat), tabObj #[rawInt 75, rawInt 4, .ref k']) :: (k', o') :: rest) → Q (.ref D) { s with heap := h', toks := tk' }) :
  wpAny (model prog w) (ktrTop dp un gd cn cs L a ccd cl outer) (call (.ref 56) [.int z t1, .int n t2]) Q E s :=
  c_i2 tab h51 (fun p hp => (O.sub p hp).2.1) hn hpl hD hD0 hD1 (by omega) hR B F X C55 (cb_drop N (List.forall_mem_cons.mpr ⟨m1, List.forall_mem_cons.mpr ⟨m2, fun p hp => (O.sub p hp).1⟩⟩)) T hk hd hQ
theorem kd2 {full rest : List (Addr × Obj)} {k1 D ne : Nat} {o1 : Obj} {ps : Array Value} {n r : Int} {l : List Int} {vs : List Value} {t2 : Tok} (N : News h₀ L s.heap full) (m0 : ((D, listOf vs.toArray ne) : Addr × Obj) ∈ full) (m1 : (((58 : Nat), tabObj ps) : Addr × Obj) ∈ full) (m2 : ((k1, o1) : Addr × Obj) ∈ full) (O : Off 58 58 full rest) (tab : Tab 90 4 qD ps k1 o1) (h58 : 58 < k1) (hD58 : 58 < D)
  (hI : IntsAre vs l) (hR : d2R n l 6 0 l.length = some r) (hl0 : 0 < l.length) (hl1 : l.length ≤ 256)
  (B : Below A₀ base outer h₀) (F : Fr h₀ L s.heap m) (X : (Mine.hd.heap_39 w.params).In h₀) (C62 : CodeHd base 62 58) (T : Top p loose mean mg mb h₀) (hk : cs.kind = .function)
  (hd : dp + 10 < recursionLimit)
  (hQ : ∀ (k' : Nat) (o' : Obj) (h' : Heap) (tk' : Nat) (t : Tok), IsCo o' qD → 58 < k' → ((ps ≠ #[] ∧ k' = k1 ∧ o' = o1) ∨ AllLt k' rest) → (ps ≠ #[] → k' = k1 ∧ o' = o1) → Fr h₀ L h' m → News h₀ L h' (((58 : Nat), tabObj #[rawInt 90, rawInt 4, .ref k']) :: (k', o') :: rest) → Q (.int r t) { s with heap := h', toks := tk' }) :
  wpAny (model prog w) (ktrTop dp un gd cn cs L a ccd cl outer) (call (.ref 63) [.ref D, .int n t2]) Q E s :=
  c_d2 tab h58 (fun p hp => (O.sub p hp).2.1) hD58 hI hl0 hl1 hR B F X C62 (cb_drop N (List.forall_mem_cons.mpr ⟨m1, List.forall_mem_cons.mpr ⟨m2, List.forall_mem_cons.mpr ⟨m0, fun p hp => (O.sub p hp).1⟩⟩⟩)) T hk hd
    (fun k' o' h' tk' t i a1 a2 a3 F' N' => hQ k' o' h' tk' t i a1 (a2.imp id fun q => q.2) a3 F' fun p hp => by
      cases hp with
      | head => exact N' _ (List.Mem.head _)
      | tail _ hp => cases hp with
        | head => exact N' _ (List.Mem.tail _ (List.Mem.head _))
        | tail _ hp => exact N' _ (List.Mem.tail _ (List.Mem.tail _ (List.Mem.tail _ hp))))
theorem k_div {x y n q r : Int} {t1 t2 t3 : Tok} (hb : Builtin.Int.intBits x ≤ 64) (hn : 0 ≤ n) (hy : y ≠ 0) (hpy : Builtin.divisionGoesByPylong x y = false) (eq : x.fdiv y = q) (er : x.fmod y = r)
  (B : Below A₀ base outer h₀) (F : Fr h₀ L s.heap m) (X : (Mine.hd.heap_39 w.params).In h₀) (N : News h₀ L s.heap news) (T : Top p loose mean mg mb h₀) (hk : cs.kind = .function)
  (hd : dp + 1 < recursionLimit)
  (hQ : ∀ (r' : Addr) (h' : Heap) (tk' t t' : Tok), Fr h₀ L h' m → News h₀ L h' ((r', { cls := .type "tuple", data := .seq #[.int q t, .int r t'] }) :: news) → (∀ p ∈ news, p.1 < r') → Q (.ref r') { s with heap := h', toks := tk' }) :
  wpAny (model prog w) (ktrTop dp un gd cn cs L a ccd cl outer) (call (.ref 42) [.int x t1, .int y t2, .int n t3]) Q E s := by
  subst eq er
  exact c_div x y n t1 t2 t3 hb hn hy hpy B F X N T hk hd hQ
end Mine
local macro_rules | `(tactic| walk_at "call ref") => `(tactic| ((with_reducible show wpAny _ _ (call (.ref 56) _) _ _ _); k_here; k_dflt (refine' Mine.ki2 ?N ?m1 ?m2 ?O ?tab ?h51 ?hR ?hD ?hn ?hpl ?hD0 ?hD1 ?hz ?B ?F ?X ?C55 ?T ?hk ?hd ?_; (case N => k_asm); (case m1 => k_mem); (case tab => with_reducible assumption); (case m2 => k_mem); (case O => repeat (first | exact Mine.Off.one (by assumption) | exact Mine.Off.nil | (apply Mine.Off.keep; omega; omega) | apply Mine.Off.drop)); (case B => k_asm); (case F => k_asm); (case X => k_asm); (case T => k_asm); (case C55 => assumption); (case hR => with_reducible assumption); (case hD => with_reducible assumption); (case hn => assumption); (case hpl => with_reducible assumption); (case hD0 => with_reducible assumption); (case hD1 => assumption); (case hz => assumption); (case h51 => omega); (case hk => exact rfl); (case hd => k_room); k_whole; intro k' o' D' h' tk' vs' i' a1 a2 a3 a4 a5 hI' F' N'; (try simp only [AllLt, and_true] at a2 a5); (try k_sweep))))
local macro_rules | `(tactic| walk_at "call ref") => `(tactic| ((with_reducible show wpAny _ _ (call (.ref 63) _) _ _ _); k_here; k_dflt (refine' Mine.kd2 ?N ?m0 ?m1 ?m2 ?O ?tab ?h58 ?hD58 ?hI ?hR ?hl0 ?hl1 ?B ?F ?X ?C62 ?T ?hk ?hd ?_; (case N => k_asm); (case m0 => k_mem); (case m1 => k_mem); (case tab => with_reducible assumption); (case m2 => k_mem); (case O => repeat (first | exact Mine.Off.one (by assumption) | exact Mine.Off.nil | (apply Mine.Off.keep; omega; omega) | apply Mine.Off.drop)); (case B => k_asm); (case F => k_asm); (case X => k_asm); (case T => k_asm); (case C62 => assumption); (case hI => with_reducible assumption); (case hR => with_reducible assumption); (case hl0 => assumption); (case hl1 => assumption); (case h58 => omega); (case hD58 => omega); (case hk => exact rfl); (case hd => k_room); k_whole; intro k' o' h' tk' t' i' a1 a2 a3 F' N'; (try simp only [AllLt, and_true] at a2); (try k_sweep))))
local macro_rules | `(tactic| walk_at "call ref") => `(tactic| ((with_reducible show wpAny _ _ (call (.ref 42) _) _ _ _); k_here; k_dflt (refine' Mine.k_div ?hb ?hn ?hy ?hpy ?eq ?er ?B ?F ?X ?N ?T ?hk ?hd ?_; (case N => k_asm); (case B => k_asm); (case F => k_asm); (case X => k_asm); (case T => k_asm); (case hb => assumption); (case hn => omega); (case hy => omega); (case hpy => assumption); (case eq => assumption); (case er => assumption); (case hk => exact rfl); (case hd => k_room); k_whole; intro D' h' tk' t1' t2' F' N' l1; (try k_lt l1); (try k_sweep))))
local macro_rules | `(tactic| walk_at "call builtin:list.append") => `(tactic| (k_here; k_dflt (refine' Mine.appK ?F ?N ?U ?I ?l ?_; (case F => k_asm); (case N => k_asm); (case U => k_upd); (case I => with_reducible assumption); (case l => assumption); k_whole); intro h' hI' F' N'; (try k_sweep)))
local macro_rules | `(tactic| walk_at "call builtin:list.reverse") => `(tactic| (k_here; k_dflt (refine' Mine.revK ?F ?N ?U ?I ?l ?_; (case F => k_asm); (case N => k_asm); (case U => k_upd); (case I => with_reducible assumption); (case l => assumption); k_whole); intro h' hI' F' N'; (try k_sweep)))
local macro_rules | `(tactic| walk_at "call builtin:int.bit_length") => `(tactic| (refine' Mine.L_bits ?hk ?_; (case hk => assumption); k_whole))
local macro_rules | `(tactic| walk_at "pyIter ref") => `(tactic| (refine Mine.hold ?_))
local macro_rules | `(tactic| walk_at "UnrPost") => `(tactic| (refine Mine.hold ?_))
namespace Mine
variable {prog : Program} {w : World} {p : Program} {loose : List Str} {mean : ExcName → Option Value} {mg mb : Str → Option Value} {dp un : Nat} {gd : Option (List Code)} {cn : Str} {cs : Scope} {a : Addr} {ccd : Value} {cl : List (Str × Addr)} {outer : List Env} {A₀ : Around} {base h₀ : Heap} {L : Addr} {m : Str → Option Value} {s : Shared} {Q : Value → Shared → Prop} {E : Value → Shared → Prop} {news : List (Addr × Obj)}
set_option maxHeartbeats 8000000 in
theorem c_dm {k1 k2 x : Nat} {o1 o2 ox : Obj} {ps qs : Array Value} {z b q r : Int} {t1 t2 : Tok} (hR : dmT z b = some (q, r)) (tab1 : Tab 75 4 qI ps k1 o1) (tab2 : Tab 90 4 qD qs k2 o2) (h1 : 58 < k1) (h2 : 58 < k2) (hx1 : k1 ≤ x) (hx2 : k2 ≤ x)
  (B : Below A₀ base outer h₀) (F : Fr h₀ L s.heap m) (X : (Mine.hd.heap_39 w.params).In h₀) (C55 : CodeHd base 55 51) (C62 : CodeHd base 62 58) (N : News h₀ L s.heap [((51 : Nat), tabObj ps), (k1, o1), ((58 : Nat), tabObj qs), (k2, o2), (x, ox)]) (T : Top p loose mean mg mb h₀) (hk : cs.kind = .function)
  (hd : dp + 20 < recursionLimit)
  (hQ : ∀ (D k1' k2' : Nat) (o1' o2' : Obj) (h' : Heap) (tk' : Nat) (u u' : Tok), IsCo o1' qI → IsCo o2' qD → ((ps ≠ #[] ∧ k1' = k1 ∧ o1' = o1) ∨ x < k1') → ((qs ≠ #[] ∧ k2' = k2 ∧ o2' = o2) ∨ x < k2') → (ps ≠ #[] → k1' = k1 ∧ o1' = o1) → (qs ≠ #[] → k2' = k2 ∧ o2' = o2) → x < D → Fr h₀ L h' m →
    News h₀ L h' [(D, { cls := .type "tuple", data := .seq #[.int q u, .int r u'] }), ((51 : Nat), tabObj #[rawInt 75, rawInt 4, .ref k1']), (k1', o1'), ((58 : Nat), tabObj #[rawInt 90, rawInt 4, .ref k2']), (k2', o2'), (k1, o1), (k2, o2), (x, ox)] → GSub s.heap h' [51, k1, 58, k2, x] → Q (.ref D) { s with heap := h', toks := tk' }) :
  wpAny (model prog w) (ktrTop dp un gd cn cs L a ccd cl outer) (call (.ref 77) [.int z t1, .int b t2]) Q E s := by
  obtain ⟨n, D, l, ql, e1, e2, e3, e4, e5, e6, e7, e8, e9, e10, e11, e12, e13, e14, e15⟩ := dmT_out hR
  clear hR
  have hb0 : b ≠ 0 := by omega
  obtain ⟨ck, cnames, c3, c4, c5⟩ := cs
  dsimp only at hk
  subst hk
  refine wpAny_call ?_
  (refine' code_defG ?k1 ?k2 ?k3 ?k4 ?k5 ?kA ?kF ?kK ?k6 ?k7 ?k8 ?k9 ?kB ?_ ?c2 ?c3 ?c4 ?c5; (case kA => exact rfl); (case kF => exact rfl); (case kK => exact rfl); (case k1 => k_asm); (case k2 => k_asm); (case k3 => k_asm); (case k4 => k_asm); (case k5 => k_asm); (case k6 => k_is); (case k7 => k_is); (case k8 => k_room); (case k9 => exact BindsTo.of_eq rfl); (case c5 => decide); (case kB => exact locs rfl); (case c2 => exact rfl); (case c3 => exact rfl); (case c4 => exact rfl); k_whole; intro g' L' h' FG' F' N' B' X' T' GS'; (try dsimp only); (try k_lift B'); (try k_fold))
  k_steps
  all_goals (first | (exfalso; omega) | skip)
  rename_i k1' o1' Da ha tka vsa iC a1 a3 a4 hIa a2 a5 hb tkb hc Qa hd' l1q he Dr hf F9 N9 l1r
  refine (show wpAny _ _ (pyIter _) _ _ _ from ?_)
  refine iter_revUnr (ax := Da) (vs := vsa) rfl F9 N9 ?hof (List.Mem.tail _ (List.Mem.head _)) rfl rfl ?rest
  case hof => 
    obtain ⟨l1, l2, l3, l4, l5, l6, l7, l8⟩ := l1r
    exact ⟨.inl (Nat.ne_of_lt l1), .inl (Nat.ne_of_lt l2), .inl (Nat.ne_of_lt l3), .inl (Nat.ne_of_lt l4), .inl (Nat.ne_of_lt l5), .inl (Nat.ne_of_lt l6), .inl (Nat.ne_of_lt l7), .inl (Nat.ne_of_lt l8), trivial⟩
  refine revRest_ind (J := fun rem m news => ∃ (ri : List Int) (r' : Int) (qd : List Int) (ws : List Value) (kq : Nat) (tr tn tb : Tok), IntsAre rem ri ∧ dL n b ri r' qd = some (ql, r) ∧ qd.length + ri.length ≤ 256 ∧ IntsAre ws qd ∧
    m (Str.ofString "r") = some (.int r' tr) ∧ m (Str.ofString "q_digits") = some (.ref Qa) ∧ m (Str.ofString "n") = some (.int n tn) ∧ m (Str.ofString "b") = some (.int b tb) ∧
    news = [(Qa, listOf ws.toArray kq), (Da, listOf vsa.toArray 0), ((51 : Nat), tabObj #[rawInt 75, rawInt 4, .ref k1']), (k1', o1'), (k1, o1), ((58 : Nat), tabObj qs), (k2, o2), (x, ox)]) ?zero ?succ _ _ _ ?h0
  case h0 =>
    exact ⟨l.reverse, 0, [], [], 0, _, _, _, ia_rev hIa, e11, by simpa using e14, .nil, rfl, rfl, rfl, rfl, rfl⟩
  case zero =>
    rintro m news ⟨ri, r', qd, ws, kq, tr, tn, tb, j1, j2, j3, j4, j5, j6, j7, j8, rfl⟩ h tk Fz Nz
    cases j1
    cases j2
    have hq256 : ql.length ≤ 256 := by simpa using j3
    replace Fz := fr_puts0 [(Str.ofString "r", _), (Str.ofString "q_digits", _), (Str.ofString "n", _)] Fz (by simp only [List.forall_mem_cons]; exact ⟨j5, j6, j7, fun _ h => nomatch h⟩)
    dsimp only [List.foldr] at Fz
    clear F9 N9
    refine (show wpAny _ _ (execs _ _) _ _ _ from ?_)
    k_steps
    rename_i hz1 hIz F1z N1z k2' o2' hz2 tkz tz iC2 z1 z3 z2 hz3 D' hz4 F2z N2z l1z kF1 kN1 Tc1 kX1 kF2 kN2 Tc2 kX2
    refine' hQ D' k1' k2' o1' o2' _ _ _ _ iC iC2 (a2.imp id fun q => q.2.2.2) (z2.imp id fun q => q.2.2.2.2.2.2) a3 z3 l1z.2.2.2.2.2.2.2.2 kF2 (cb_drop kN2 ?cn) (gs_end GS' rfl kF1)
    case cn => ((refine List.forall_mem_cons.mpr ⟨?_, List.forall_mem_cons.mpr ⟨?_, List.forall_mem_cons.mpr ⟨?_, List.forall_mem_cons.mpr ⟨?_, List.forall_mem_cons.mpr ⟨?_, List.forall_mem_cons.mpr ⟨?_, List.forall_mem_cons.mpr ⟨?_, List.forall_mem_cons.mpr ⟨?_, (fun _ hp => nomatch hp)⟩⟩⟩⟩⟩⟩⟩⟩); k_mem; k_mem; k_mem; k_mem; k_mem; k_mem; k_mem; k_mem)
  case succ =>
    rintro v rem m news ⟨ri, r', qd, ws, kq, tr, tn, tb, j1, j2, j3, j4, j5, j6, j7, j8, rfl⟩ it h tk hc Fz Nz
    obtain ⟨d, t, ri, rfl, rfl, jr⟩ := ia_cons j1
    clear j1
    obtain ⟨b1, b2, b3, b4⟩ := dL_cons j2
    have hq256 : qd.length ≤ 256 := by omega
    obtain ⟨q0, eq0⟩ : ∃ q0, (r' * 2 ^ n.toNat + d).fdiv b = q0 := ⟨_, rfl⟩
    obtain ⟨r0, er0⟩ : ∃ r0, (r' * 2 ^ n.toNat + d).fmod b = r0 := ⟨_, rfl⟩
    rw [eq0, er0] at b4
    replace Fz := fr_puts0 [(Str.ofString "r", some (.int r' tr)), (Str.ofString "q_digits", some (.ref Qa)), (Str.ofString "n", some (.int n tn)), (Str.ofString "b", some (.int b tb))] Fz (by simp only [List.forall_mem_cons]; exact ⟨(if_neg (by decide)).trans j5, (if_neg (by decide)).trans j6, (if_neg (by decide)).trans j7, (if_neg (by decide)).trans j8, fun _ h => nomatch h⟩)
    dsimp only [List.foldr] at Fz
    clear F9 N9
    refine (show wpAny _ _ (execs _ _) _ _ _ from ?_)
    k_steps
    rename_i D' hs4 tks t1s t2s l1s hs3 hs2 hs1 tks2 hs0 hIs F5 N5
    obtain ⟨l1, l2, l3, l4, l5, l6, l7, l8⟩ := l1r
    refine (show UnrEnd _ _ _ _ _ _ _ from UnrEnd.intro F5 N5 [(Qa, listOf (ws ++ [Value.int q0 t1s] : List Value).toArray (kq + 1)), (Da, listOf vsa.toArray 0), ((51 : Nat), tabObj #[rawInt 75, rawInt 4, .ref k1']), (k1', o1'), (k1, o1), ((58 : Nat), tabObj qs), (k2, o2), (x, ox)] (fun p hp => List.Mem.tail _ hp) ?off ⟨List.Mem.tail _ (List.Mem.head _), ri, r0, qd ++ [q0], _, kq + 1, t2s, tn, tb, jr, b4, ?len, hIs, rfl, rfl, rfl, rfl, rfl⟩)
    case len =>
      rw [List.length_append]
      simp only [List.length_cons, List.length_nil] at j3 ⊢
      omega
    case off =>
      simp only [List.forall_mem_cons]
      exact ⟨Nat.ne_of_lt l1, Nat.ne_of_lt l2, Nat.ne_of_lt l3, Nat.ne_of_lt l4, Nat.ne_of_lt l5, Nat.ne_of_lt l6, Nat.ne_of_lt l7, Nat.ne_of_lt l8, fun _ h => nomatch h⟩
end Mine
namespace Mine
variable {prog : Program} {w : World} {p : Program} {loose : List Str} {mean : ExcName → Option Value} {mg mb : Str → Option Value} {dp un : Nat} {gd : Option (List Code)} {cn : Str} {cs : Scope} {a : Addr} {ccd : Value} {cl : List (Str × Addr)} {outer : List Env} {A₀ : Around} {base h₀ : Heap} {L : Addr} {m : Str → Option Value} {s : Shared} {Q : Value → Shared → Prop} {E : Value → Shared → Prop} {news : List (Addr × Obj)}
theorem dmG {full rest : List (Addr × Obj)} {k1 k2 : Nat} {o1 o2 : Obj} {ps qs : Array Value} {z b q r : Int} {t1 t2 : Tok} (N : News h₀ L s.heap full) (m1 : (((51 : Nat), tabObj ps) : Addr × Obj) ∈ full) (m2 : ((k1, o1) : Addr × Obj) ∈ full) (m3 : (((58 : Nat), tabObj qs) : Addr × Obj) ∈ full) (m4 : ((k2, o2) : Addr × Obj) ∈ full)
  (O : Off 51 58 full rest) (hR : dmT z b = some (q, r)) (tab1 : Tab 75 4 qI ps k1 o1) (tab2 : Tab 90 4 qD qs k2 o2) (h1 : 58 < k1) (h2 : 58 < k2)
  (B : Below A₀ base outer h₀) (F : Fr h₀ L s.heap m) (X : (Mine.hd.heap_39 w.params).In h₀) (C55 : CodeHd base 55 51) (C62 : CodeHd base 62 58) (T : Top p loose mean mg mb h₀) (hk : cs.kind = .function)
  (hd : dp + 20 < recursionLimit)
  (hQ : ∀ (D k1' k2' : Nat) (o1' o2' : Obj) (h' : Heap) (tk' : Nat) (u u' : Tok), IsCo o1' qI → IsCo o2' qD → ((ps ≠ #[] ∧ k1' = k1 ∧ o1' = o1) ∨ AllLt k1' full) → ((qs ≠ #[] ∧ k2' = k2 ∧ o2' = o2) ∨ AllLt k2' full) → (ps ≠ #[] → k1' = k1 ∧ o1' = o1) → (qs ≠ #[] → k2' = k2 ∧ o2' = o2) → AllLt D full → Fr h₀ L h' m →
    News h₀ L h' ((D, { cls := .type "tuple", data := .seq #[.int q u, .int r u'] }) :: ((51 : Nat), tabObj #[rawInt 75, rawInt 4, .ref k1']) :: (k1', o1') :: ((58 : Nat), tabObj #[rawInt 90, rawInt 4, .ref k2']) :: (k2', o2') :: rest) → Q (.ref D) { s with heap := h', toks := tk' }) :
  wpAny (model prog w) (ktrTop dp un gd cn cs L a ccd cl outer) (call (.ref 77) [.int z t1, .int b t2]) Q E s := by
  obtain ⟨x, ox, hx, hmax⟩ := has_max m1
  refine c_dm hR tab1 tab2 h1 h2 (hmax _ m2) (hmax _ m4) B F X C55 C62 (x := x) (ox := ox) (cb_drop N ?_) T hk hd ?_
  · exact List.forall_mem_cons.mpr ⟨m1, List.forall_mem_cons.mpr ⟨m2, List.forall_mem_cons.mpr ⟨m3, List.forall_mem_cons.mpr ⟨m4, List.forall_mem_cons.mpr ⟨hx, fun _ hp => nomatch hp⟩⟩⟩⟩⟩
  · intro D k1' k2' o1' o2' h' tk' u u' i1 i2 a1 a2 a3 a4 hD F' N' G
    refine hQ D k1' k2' o1' o2' h' tk' u u' i1 i2 (a1.imp id (lt_of_max hmax)) (a2.imp id (lt_of_max hmax)) a3 a4 (lt_of_max hmax hD) F' ?_
    have hs := O.sub
    have got : ∀ {b o}, ((b, o) : Addr × Obj) ∈ full → ∀ o', ((b, o') : Addr × Obj) ∈ full → ∀ {P : Prop}, (o = o' → P) → P := fun e1 o' e2 P hP => hP (news_fun N e2 e1)
    refine List.forall_mem_cons.mpr ⟨N' _ (by simp), List.forall_mem_cons.mpr ⟨N' _ (by simp), List.forall_mem_cons.mpr ⟨N' _ (by simp), List.forall_mem_cons.mpr ⟨N' _ (by simp), List.forall_mem_cons.mpr ⟨N' _ (by simp), ?_⟩⟩⟩⟩⟩
    rintro ⟨c, o⟩ hp
    obtain ⟨p1, p2, p3⟩ := hs _ hp
    by_cases hb : c ∈ [k1, k2, x]
    · have : ∃ o', ((c, o') : Addr × Obj) ∈ [(k1, o1), (k2, o2), (x, ox)] ∧ ((c, o') : Addr × Obj) ∈ full := by
        simp only [List.mem_cons, List.not_mem_nil, or_false] at hb
        rcases hb with rfl | rfl | rfl
        · exact ⟨o1, by simp, m2⟩
        · exact ⟨o2, by simp, m4⟩
        · exact ⟨ox, by simp, hx⟩
      obtain ⟨o', e1, e2⟩ := this
      have := news_fun N p1 e2
      subst this
      exact N' _ (List.mem_append_right [_, _, _, _, _] e1)
    · refine ⟨G _ _ (N _ p1).1 ?_, (N _ p1).2⟩
      simp only [List.mem_cons, List.not_mem_nil, or_false, not_or] at hb ⊢
      exact ⟨p2, hb.1, p3, hb.2⟩
theorem idm {full : List (Addr × Obj)} {c51 c58 : Nat} {oc51 oc58 : Obj} {z b q r : Int} {t1 t2 : Tok} (hR : dmT z b = some (q, r)) (hco : IsCo oc51 qI) (hco8 : IsCo oc58 qD) (h51 : 58 < c51) (h58 : 58 < c58)
  (B : Below A₀ base outer h₀) (F : Fr h₀ L s.heap m) (X : (Mine.hd.heap_39 w.params).In h₀) (C55 : CodeHd base 55 51) (C62 : CodeHd base 62 58)
  (N : News h₀ L s.heap full) (m1 : ((51 : Nat), tabObj #[rawInt 75, rawInt 4, .ref c51]) ∈ full) (m2 : (c51, oc51) ∈ full) (m3 : ((58 : Nat), tabObj #[rawInt 90, rawInt 4, .ref c58]) ∈ full) (m4 : (c58, oc58) ∈ full)
  (T : Top p loose mean mg mb h₀) (hk : cs.kind = .function) (hd : dp + 20 < recursionLimit)
  (hQ : ∀ (D : Nat) (h' : Heap) (tk' : Nat) (u u' : Tok), AllLt D full → Fr h₀ L h' m → News h₀ L h' ((D, { cls := .type "tuple", data := .seq #[.int q u, .int r u'] }) :: full) → Q (.ref D) { s with heap := h', toks := tk' }) :
  wpAny (model prog w) (ktrTop dp un gd cn cs L a ccd cl outer) (call (.ref 77) [.int z t1, .int b t2]) Q E s := by
  obtain ⟨x, ox, hx, hmax⟩ := has_max m1
  refine c_dm hR (.inr ⟨rfl, hco⟩) (.inr ⟨rfl, hco8⟩) h51 h58 (hmax _ m2) (hmax _ m4) B F X C55 C62 (x := x) (ox := ox) (cb_drop N ?_) T hk hd ?_
  · exact List.forall_mem_cons.mpr ⟨m1, List.forall_mem_cons.mpr ⟨m2, List.forall_mem_cons.mpr ⟨m3, List.forall_mem_cons.mpr ⟨m4, List.forall_mem_cons.mpr ⟨hx, fun _ hp => nomatch hp⟩⟩⟩⟩⟩
  · intro D k1' k2' o1' o2' h' tk' u u' i1 i2 a1 a2 a3 a4 hD F' N' G
    obtain ⟨rfl, rfl⟩ := a3 (by simp)
    obtain ⟨rfl, rfl⟩ := a4 (by simp)
    refine hQ D h' tk' u u' (lt_of_max hmax hD) F' ?_
    refine List.forall_mem_cons.mpr ⟨N' _ (List.Mem.head _), gs_join N G N' ?_⟩
    exact List.forall_mem_cons.mpr ⟨⟨_, m1, by simp⟩, List.forall_mem_cons.mpr ⟨⟨_, m2, by simp⟩, List.forall_mem_cons.mpr ⟨⟨_, m3, by simp⟩, List.forall_mem_cons.mpr ⟨⟨_, m4, by simp⟩, List.forall_mem_cons.mpr ⟨⟨_, hx, by simp⟩, fun _ hp => nomatch hp⟩⟩⟩⟩⟩
/-- the loop of `_law_ways` -/
noncomputable def wL (many : Int) : Nat → Nat → Int → Option Int
  | 0, _, f => some f
  | k + 1, i, f =>
    if Builtin.Int.intBits f ≤ 64 then
      match dmT (f * (many - (i : Int))) ((i : Int) + 1) with
      | some (q, r) => if r = 0 then wL many k (i + 1) q else none
      | none => none
    else none
theorem wL_succ {many f res : Int} {k i : Nat} (h : wL many (k + 1) i f = some res) : ∃ q, Builtin.Int.intBits f ≤ 64 ∧ dmT (f * (many - (i : Int))) ((i : Int) + 1) = some (q, 0) ∧ wL many k (i + 1) q = some res := by
  unfold wL at h
  split at h
  · next c =>
    split at h
    · next q r e =>
      split at h
      · next e2 => subst e2; exact ⟨q, c, e, h⟩
      · cases h
    · cases h
  · cases h
structure TS (ln co : Nat) (q : Str) (ps : Array Value) (k : Nat) (o : Obj) (x I : Nat) (ps' : Array Value) (k' : Nat) (o' : Obj) : Prop where
  tab : Tab ln co q ps' k' o'
  hi : 58 < k'
  ne : k' ≠ I
  same : ps ≠ #[] → ps' = ps ∧ k' = k ∧ o' = o
  or : (ps' = ps ∧ k' = k ∧ o' = o) ∨ x < k'
theorem TS.step {ln co : Nat} {q : Str} {ps ps' : Array Value} {k k' kn x I : Nat} {o o' on : Obj} (j : TS ln co q ps k o x I ps' k' o') (c : IsCo on q) (a1 : (ps' ≠ #[] ∧ kn = k' ∧ on = o') ∨ (58 < kn ∧ I < kn ∧ x < kn)) (a3 : ps' ≠ #[] → kn = k' ∧ on = o') : TS ln co q ps k o x I #[rawInt ln, rawInt co, .ref kn] kn on := by
  refine ⟨.inr ⟨rfl, c⟩, ?_, ?_, fun h => ?_, ?_⟩
  · rcases a1 with a | a
    · rw [a.2.1]; exact j.hi
    · exact a.1
  · rcases a1 with a | a
    · rw [a.2.1]; exact j.ne
    · exact Nat.ne_of_gt a.2.1
  · obtain ⟨e1, e2, e3⟩ := j.same h
    have h' : ps' ≠ #[] := by rw [e1]; exact h
    obtain ⟨e4, e5⟩ := a3 h'
    have e6 := (j.tab.resolve_left h').1
    exact ⟨by rw [e4, ← e6, e1], e4.trans e2, e5.trans e3⟩
  · rcases a1 with a | a
    · rcases j.or with b | b
      · exact .inl ⟨by rw [a.2.1, ← (j.tab.resolve_left a.1).1, b.1], a.2.1.trans b.2.1, a.2.2.trans b.2.2⟩
      · exact .inr (by rw [a.2.1]; exact b)
    · exact .inr a.2.2
theorem few_range : ∀ f : Nat, f ≤ 4 → Builtin.Range.small 0 (f : Int) 1 = true ∧ Builtin.Range.rangeSize 0 (f : Int) 1 = (f : Int) := by decide +kernel
end Mine
local macro_rules | `(tactic| walk_at "call ref") => `(tactic| ((with_reducible show wpAny _ _ (call (.ref 77) _) _ _ _); k_here; k_dflt (refine' Mine.dmG ?N ?m1 ?m2 ?m3 ?m4 ?O ?hR ?tab1 ?tab2 ?h1 ?h2 ?B ?F ?X ?C55 ?C62 ?T ?hk ?hd ?_; (case N => k_asm); (case m1 => k_mem); (case m3 => k_mem); (case tab1 => with_reducible assumption); (case tab2 => with_reducible assumption); (case m2 => k_mem); (case m4 => k_mem); (case O => repeat (first | exact Mine.Off.nil | (apply Mine.Off.keep; omega; omega) | apply Mine.Off.drop)); (case B => k_asm); (case F => k_asm); (case X => k_asm); (case T => k_asm); (case C55 => assumption); (case C62 => assumption); (case hR => with_reducible assumption); (case h1 => assumption); (case h2 => assumption); (case hk => exact rfl); (case hd => k_room); k_whole; intro D' k1' k2' o1' o2' h' tk' u' v' i1 i2 a1 a2 a3 a4 l1 F' N'; (try simp only [AllLt, and_true] at a1 a2 l1); (try k_sweep))))
namespace Mine
variable {prog : Program} {w : World} {p : Program} {loose : List Str} {mean : ExcName → Option Value} {mg mb : Str → Option Value} {dp un : Nat} {gd : Option (List Code)} {cn : Str} {cs : Scope} {a : Addr} {ccd : Value} {cl : List (Str × Addr)} {outer : List Env} {A₀ : Around} {base h₀ : Heap} {L : Addr} {m : Str → Option Value} {s : Shared} {Q : Value → Shared → Prop} {E : Value → Shared → Prop} {news : List (Addr × Obj)}
set_option maxHeartbeats 8000000 in
theorem c_ways {k1 k2 x few : Nat} {o1 o2 ox : Obj} {ps qs : Array Value} {z res : Int} {t1 t2 : Tok} (hR : wL z few 0 1 = some res) (hf : few ≤ 4) (tab1 : Tab 75 4 qI ps k1 o1) (tab2 : Tab 90 4 qD qs k2 o2) (h1 : 58 < k1) (h2 : 58 < k2) (hx1 : k1 ≤ x) (hx2 : k2 ≤ x)
  (B : Below A₀ base outer h₀) (F : Fr h₀ L s.heap m) (X : (Mine.hd.heap_39 w.params).In h₀) (C55 : CodeHd base 55 51) (C62 : CodeHd base 62 58) (N : News h₀ L s.heap [((51 : Nat), tabObj ps), (k1, o1), ((58 : Nat), tabObj qs), (k2, o2), (x, ox)]) (T : Top p loose mean mg mb h₀) (hk : cs.kind = .function)
  (hd : dp + 30 < recursionLimit)
  (hQ : ∀ (ps' qs' : Array Value) (k1' k2' : Nat) (o1' o2' : Obj) (h' : Heap) (tk' : Nat) (u : Tok), Tab 75 4 qI ps' k1' o1' → Tab 90 4 qD qs' k2' o2' → (0 < few → ps' ≠ #[] ∧ qs' ≠ #[]) → (ps ≠ #[] → ps' = ps ∧ k1' = k1 ∧ o1' = o1) → (qs ≠ #[] → qs' = qs ∧ k2' = k2 ∧ o2' = o2) → ((ps' = ps ∧ k1' = k1 ∧ o1' = o1) ∨ x < k1') → ((qs' = qs ∧ k2' = k2 ∧ o2' = o2) ∨ x < k2') → Fr h₀ L h' m →
    News h₀ L h' [((51 : Nat), tabObj ps'), (k1', o1'), ((58 : Nat), tabObj qs'), (k2', o2'), (k1, o1), (k2, o2), (x, ox)] → GSub s.heap h' [51, k1, 58, k2, x] → Q (.int res u) { s with heap := h', toks := tk' }) :
  wpAny (model prog w) (ktrTop dp un gd cn cs L a ccd cl outer) (call (.ref 103) [.int z t1, .int (few : Int) t2]) Q E s := by
  obtain ⟨ck, cnames, c3, c4, c5⟩ := cs
  dsimp only at hk
  subst hk
  refine wpAny_call ?_
  (refine' code_defG ?k1 ?k2 ?k3 ?k4 ?k5 ?kA ?kF ?kK ?k6 ?k7 ?k8 ?k9 ?kB ?_ ?c2 ?c3 ?c4 ?c5; (case kA => exact rfl); (case kF => exact rfl); (case kK => exact rfl); (case k1 => k_asm); (case k2 => k_asm); (case k3 => k_asm); (case k4 => k_asm); (case k5 => k_asm); (case k6 => k_is); (case k7 => k_is); (case k8 => k_room); (case k9 => exact BindsTo.of_eq rfl); (case c5 => decide); (case kB => exact locs rfl); (case c2 => exact rfl); (case c3 => exact rfl); (case c4 => exact rfl); k_whole; intro g' L' h' FG' F' N' B' X' T' GS'; (try dsimp only); (try k_lift B'); (try k_fold))
  k_steps
  rename_i hA FA NA hB tkB ta ua va rg F9 N9 up
  refine (show wpAny _ _ (pyIter _) _ _ _ from ?_)
  refine iter_rangeUnr (n := few) (news := [((51 : Nat), tabObj ps), (k1, o1), ((58 : Nat), tabObj qs), (k2, o2), (k1, o1), (k2, o2), (x, ox)]) rfl rg (few_range few hf).1 (few_range few hf).2 F9 (cb_drop N9 (by simp only [List.forall_mem_cons]; exact ⟨by simp, by simp, by simp, by simp, by simp, by simp, by simp, fun _ h => nomatch h⟩)) (fun I hI => ?_)
  obtain ⟨g1, g2, g3, g4, -, -, g5, -⟩ := allLt_iff.mpr hI
  replace g1 : (51 : Nat) < I := g1
  replace g2 : (k1 : Nat) < I := g2
  replace g3 : (58 : Nat) < I := g3
  replace g4 : (k2 : Nat) < I := g4
  replace g5 : (x : Nat) < I := g5
  refine rangeRest_ind (J := fun i m news => ∃ (f : Int) (tf tm : Tok) (ps' qs' : Array Value) (k1' k2' : Nat) (o1' o2' : Obj), wL z (few - i) i f = some res ∧ m (Str.ofString "found") = some (.int f tf) ∧ m (Str.ofString "many") = some (.int z tm) ∧
    TS 75 4 qI ps k1 o1 x I ps' k1' o1' ∧ TS 90 4 qD qs k2 o2 x I qs' k2' o2' ∧ (0 < i → ps' ≠ #[] ∧ qs' ≠ #[]) ∧ news = [((51 : Nat), tabObj ps'), (k1', o1'), ((58 : Nat), tabObj qs'), (k2', o2'), (k1, o1), (k2, o2), (x, ox)]) ?h0 ?zero ?succ
  case h0 =>
    exact ⟨1, _, _, ps, qs, k1, k2, o1, o2, by rw [Nat.sub_zero]; exact hR, rfl, rfl, ⟨tab1, h1, Nat.ne_of_lt g2, fun _ => ⟨rfl, rfl, rfl⟩, .inl ⟨rfl, rfl, rfl⟩⟩, ⟨tab2, h2, Nat.ne_of_lt g4, fun _ => ⟨rfl, rfl, rfl⟩, .inl ⟨rfl, rfl, rfl⟩⟩, (fun h => absurd h (Nat.lt_irrefl 0)), rfl⟩
  case zero =>
    rintro m news ⟨f, tf, tm, ps', qs', k1', k2', o1', o2', j1, j2, j3, j4, j5, j6, rfl⟩ h tk Fz Nz
    rw [Nat.sub_self] at j1
    cases j1
    replace Fz := fr_puts0 [(Str.ofString "found", _)] Fz (by simp only [List.forall_mem_cons]; exact ⟨j2, fun _ h => nomatch h⟩)
    dsimp only [List.foldr] at Fz
    clear F9 N9 FA NA
    refine (show wpAny _ _ (execs _ _) _ _ _ from ?_)
    k_steps
    rename_i kF kN Tc kX
    exact hQ ps' qs' k1' k2' o1' o2' _ _ _ j4.tab j5.tab j6 j4.same j5.same j4.or j5.or kF kN (gs_end GS' rfl Fz)
  case succ =>
    rintro i m news hi ⟨f, tf, tm, ps', qs', k1', k2', o1', o2', j1, j2, j3, j4, j5, j6, rfl⟩ it t h tk Fz Nz
    rw [show few - i = (few - (i + 1)) + 1 from by omega] at j1
    obtain ⟨q, b1, b2, b3⟩ := wL_succ j1
    clear j1
    rw [show ((i : Nat) : Int) = 0 + ((i : Nat) : Int) from (Int.zero_add _).symm] at b2
    replace Fz := fr_puts0 [(Str.ofString "found", some (.int f tf)), (Str.ofString "many", some (.int z tm))] Fz (by simp only [List.forall_mem_cons]; exact ⟨(if_neg (by decide)).trans j2, (if_neg (by decide)).trans j3, fun _ h => nomatch h⟩)
    dsimp only [List.foldr] at Fz
    clear F9 N9 FA NA
    have tab1' := j4.tab
    have tab2' := j5.tab
    have h1' := j4.hi
    have h2' := j5.hi
    have ne1' := j4.ne
    have ne2' := j5.ne
    clear tab1 tab2
    refine (show wpAny _ _ (execs _ _) _ _ _ from ?_)
    k_steps
    rename_i D' k1n k2n o1n o2n hs4 tks us vs' i1 i2 a3 a4 a1 a2 l1 hs3 hs2 hs1 F5 N5 tk5
    refine (show UnrEnd _ _ _ _ _ _ _ from UnrEnd.intro F5 N5 [((51 : Nat), tabObj #[rawInt 75, rawInt 4, .ref k1n]), (k1n, o1n), ((58 : Nat), tabObj #[rawInt 90, rawInt 4, .ref k2n]), (k2n, o2n), (k1, o1), (k2, o2), (x, ox)] ?sub ?off
      ⟨q, us, tm, _, _, k1n, k2n, o1n, o2n, b3, rfl, rfl, j4.step i1 (a1.imp id fun q => ⟨q.2.2.2.1, q.1, q.2.2.2.2.2.2.2⟩) a3, j5.step i2 (a2.imp id fun q => ⟨q.2.2.2.1, q.1, q.2.2.2.2.2.2.2⟩) a4, fun _ => ⟨by simp, by simp⟩, rfl⟩)
    case sub =>
      refine List.forall_mem_cons.mpr ⟨?_, List.forall_mem_cons.mpr ⟨?_, List.forall_mem_cons.mpr ⟨?_, List.forall_mem_cons.mpr ⟨?_, List.forall_mem_cons.mpr ⟨?_, fun p hp => ?_⟩⟩⟩⟩⟩
      all_goals first | k_mem | (repeat (first | exact hp | refine List.Mem.tail _ ?_))
    case off =>
      refine List.forall_mem_cons.mpr ⟨?_, List.forall_mem_cons.mpr ⟨?_, List.forall_mem_cons.mpr ⟨?_, List.forall_mem_cons.mpr ⟨?_, List.forall_mem_cons.mpr ⟨Nat.ne_of_lt g2, List.forall_mem_cons.mpr ⟨Nat.ne_of_lt g4, List.forall_mem_cons.mpr ⟨Nat.ne_of_lt g5, fun _ hp => nomatch hp⟩⟩⟩⟩⟩⟩⟩
      · exact Nat.ne_of_lt g1
      · exact (j4.step i1 (a1.imp id fun q => ⟨q.2.2.2.1, q.1, q.2.2.2.2.2.2.2⟩) a3).ne
      · exact Nat.ne_of_lt g3
      · exact (j5.step i2 (a2.imp id fun q => ⟨q.2.2.2.1, q.1, q.2.2.2.2.2.2.2⟩) a4).ne
end Mine
end
namespace Mine
variable {prog : Program} {w : World} {p : Program} {loose : List Str} {mean : ExcName → Option Value} {mg mb : Str → Option Value} {dp un : Nat} {gd : Option (List Code)} {cn : Str} {cs : Scope} {a : Addr} {ccd : Value} {cl : List (Str × Addr)} {outer : List Env} {A₀ : Around} {base h₀ : Heap} {L : Addr} {m : Str → Option Value} {s : Shared} {Q : Value → Shared → Prop} {E : Value → Shared → Prop} {news : List (Addr × Obj)}
noncomputable def waysT : List (Int × Int × Int) := [(1, 0, 1), (1, 1, 1), (2, 0, 1), (2, 1, 2), (2, 2, 1), (3, 0, 1), (3, 1, 3), (3, 2, 3), (3, 3, 1), (4, 0, 1), (4, 1, 4), (4, 2, 6), (4, 3, 4), (4, 4, 1)]
noncomputable def waysTF : List (Int × Int × Int) := [(2, 1, 2), (4, 2, 6), (6, 3, 20), (8, 4, 70)]
theorem ways_all : ((waysT ++ waysTF).all fun p => decide (wL p.1 p.2.1.toNat 0 1 = some p.2.2 ∧ ((p.2.1.toNat : Nat) : Int) = p.2.1 ∧ p.2.1.toNat ≤ 4)) = true := by decide +kernel
theorem waysTF_pos : (waysTF.all fun p => decide (0 < p.2.1.toNat)) = true := by decide +kernel
theorem ways {full : List (Addr × Obj)} {c51 c58 : Nat} {oc51 oc58 : Obj} {z b r : Int} {t1 t2 : Tok} (hm : (z, b, r) ∈ waysT) (hco : IsCo oc51 qI) (hco8 : IsCo oc58 qD) (h51 : 58 < c51) (h58 : 58 < c58)
  (B : Below A₀ base outer h₀) (F : Fr h₀ L s.heap m) (X : (Mine.hd.heap_39 w.params).In h₀) (C55 : CodeHd base 55 51) (C62 : CodeHd base 62 58)
  (N : News h₀ L s.heap full) (m1 : ((51 : Nat), tabObj #[rawInt 75, rawInt 4, .ref c51]) ∈ full) (m2 : (c51, oc51) ∈ full) (m3 : ((58 : Nat), tabObj #[rawInt 90, rawInt 4, .ref c58]) ∈ full) (m4 : (c58, oc58) ∈ full)
  (T : Top p loose mean mg mb h₀) (hk : cs.kind = .function) (hd : dp + 30 < recursionLimit)
  (hQ : ∀ (h' : Heap) (tk' : Nat) (u : Tok), Fr h₀ L h' m → News h₀ L h' full → Q (.int r u) { s with heap := h', toks := tk' }) :
  wpAny (model prog w) (ktrTop dp un gd cn cs L a ccd cl outer) (call (.ref 103) [.int z t1, .int b t2]) Q E s := by
  have hw := List.all_eq_true.mp ways_all _ (List.mem_append_left _ hm)
  simp only [decide_eq_true_eq] at hw
  obtain ⟨w1, w2, w3⟩ := hw
  rw [← w2]
  obtain ⟨x, ox, hx, hmax⟩ := has_max m1
  refine c_ways w1 w3 (.inr ⟨rfl, hco⟩) (.inr ⟨rfl, hco8⟩) h51 h58 (hmax _ m2) (hmax _ m4) B F X C55 C62 (x := x) (ox := ox) (cb_drop N ?_) T hk hd ?_
  · exact List.forall_mem_cons.mpr ⟨m1, List.forall_mem_cons.mpr ⟨m2, List.forall_mem_cons.mpr ⟨m3, List.forall_mem_cons.mpr ⟨m4, List.forall_mem_cons.mpr ⟨hx, fun _ hp => nomatch hp⟩⟩⟩⟩⟩
  · intro ps' qs' k1' k2' o1' o2' h' tk' u _ _ _ a1 a2 _ _ F' N' G
    obtain ⟨rfl, rfl, rfl⟩ := a1 (by simp)
    obtain ⟨rfl, rfl, rfl⟩ := a2 (by simp)
    refine hQ h' tk' u F' (gs_join N G N' ?_)
    exact List.forall_mem_cons.mpr ⟨⟨_, m1, by simp⟩, List.forall_mem_cons.mpr ⟨⟨_, m2, by simp⟩, List.forall_mem_cons.mpr ⟨⟨_, m3, by simp⟩, List.forall_mem_cons.mpr ⟨⟨_, m4, by simp⟩, List.forall_mem_cons.mpr ⟨⟨_, hx, by simp⟩, fun _ hp => nomatch hp⟩⟩⟩⟩⟩
theorem waysF {full full' : List (Addr × Obj)} {z b r : Int} {t1 t2 : Tok} (hm : (z, b, r) ∈ waysTF)
  (B : Below A₀ base outer h₀) (F : Fr h₀ L s.heap m) (X : (Mine.hd.heap_39 w.params).In h₀) (C55 : CodeHd base 55 51) (C62 : CodeHd base 62 58)
  (N : News h₀ L s.heap full) (O : Off 51 58 full full') (y : Nat) (oy : Obj) (hy : ((y, oy) : Addr × Obj) ∈ full') (m1 : ((51 : Nat), tabObj #[]) ∈ full) (m2 : ((58 : Nat), tabObj #[]) ∈ full) (hy58 : 58 < y)
  (T : Top p loose mean mg mb h₀) (hk : cs.kind = .function) (hd : dp + 30 < recursionLimit)
  (hQ : ∀ (c51 c58 : Nat) (oc51 oc58 : Obj) (h' : Heap) (tk' : Nat) (u : Tok), IsCo oc51 qI → IsCo oc58 qD → 58 < c51 → 58 < c58 → AllLt c51 full' → AllLt c58 full' → Fr h₀ L h' m → News h₀ L h' (((51 : Nat), tabObj #[rawInt 75, rawInt 4, .ref c51]) :: (c51, oc51) :: ((58 : Nat), tabObj #[rawInt 90, rawInt 4, .ref c58]) :: (c58, oc58) :: full') → Q (.int r u) { s with heap := h', toks := tk' }) :
  wpAny (model prog w) (ktrTop dp un gd cn cs L a ccd cl outer) (call (.ref 103) [.int z t1, .int b t2]) Q E s := by
  have hw := List.all_eq_true.mp ways_all _ (List.mem_append_right _ hm)
  have hp := List.all_eq_true.mp waysTF_pos _ hm
  simp only [decide_eq_true_eq] at hw hp
  obtain ⟨w1, w2, w3⟩ := hw
  rw [← w2]
  obtain ⟨x, ox, hx, hmax⟩ := has_max hy
  have hx58 : 58 < x := Nat.lt_of_lt_of_le hy58 (hmax _ hy)
  have hs := O.sub
  have hxf := hs _ hx
  refine c_ways w1 w3 (k1 := x) (k2 := x) (o1 := ox) (o2 := ox) (.inl rfl) (.inl rfl) hx58 hx58 (Nat.le_refl _) (Nat.le_refl _) B F X C55 C62 (x := x) (ox := ox) (cb_drop N ?_) T hk hd ?_
  · exact List.forall_mem_cons.mpr ⟨m1, List.forall_mem_cons.mpr ⟨hxf.1, List.forall_mem_cons.mpr ⟨m2, List.forall_mem_cons.mpr ⟨hxf.1, List.forall_mem_cons.mpr ⟨hxf.1, fun _ hp => nomatch hp⟩⟩⟩⟩⟩
  · intro ps' qs' k1' k2' o1' o2' h' tk' u b1 b2 b3 _ _ c1 c2 F' N' G
    obtain ⟨n1, n2⟩ := b3 hp
    obtain ⟨e1, i1⟩ := b1.resolve_left n1
    obtain ⟨e2, i2⟩ := b2.resolve_left n2
    subst e1 e2
    have l1 : x < k1' := c1.resolve_left fun q => n1 q.1
    have l2 : x < k2' := c2.resolve_left fun q => n2 q.1
    refine hQ k1' k2' o1' o2' h' tk' u i1 i2 (Nat.lt_trans hx58 l1) (Nat.lt_trans hx58 l2) (lt_of_max hmax l1) (lt_of_max hmax l2) F' ?_
    refine List.forall_mem_cons.mpr ⟨N' _ (by simp), List.forall_mem_cons.mpr ⟨N' _ (by simp), List.forall_mem_cons.mpr ⟨N' _ (by simp), List.forall_mem_cons.mpr ⟨N' _ (by simp), ?_⟩⟩⟩⟩
    intro p hp
    by_cases hb : p.1 = x
    · obtain ⟨b', o'⟩ := p
      subst hb
      have := news_fun N (hs _ hx).1 (hs _ hp).1
      subst this
      exact N' _ (by simp)
    · have hp' := hs _ hp
      refine ⟨G _ _ (N _ hp'.1).1 ?_, (N _ hp'.1).2⟩
      simp only [List.mem_cons, List.not_mem_nil, or_false, not_or]
      exact ⟨hp'.2.1, hb, hp'.2.2, hb, hb⟩
end Mine
namespace Mine
section
variable {M : Model} {A : Around} {R : GenEnd} {Y : Protocol} {n : Nat} {s₀ : Shared} {c : Code} {fs : List Frame} {s : Shared} {env : Env}
  {K : Flow → Sem Fin} {H : Value → Sem Fin} {gd : Bool → Bool} {lv : List Value → List Value}
theorem sg_If {test : Expr} {body orelse : List Stmt} {pos : Pos}
    (h : wpAny M (A.over c fs) (isTrue test env (eval test env)) (fun b s' => if b = true then Seg M A R Y n s₀ c ((execs body env).wrap K H gd lv) fs s' else Seg M A R Y n s₀ c ((execs orelse env).wrap K H gd lv) fs s')
      (fun _ _ => False) s) : Seg M A R Y n s₀ c ((exec (.If test body orelse pos) env).wrap K H gd lv) fs s := by
  show Seg M A R Y n s₀ c (.at pos fun _ => ((isTrue test env (eval test env)) >>= fun b => if b = true then execs body env else execs orelse env).wrap K H gd lv) fs s
  refine seg_at ?_
  rw [Sem.bind_eq_wrap', Sem.wrap_wrap]
  refine seg_wrap (wpAny_mono h (fun b s' hb => ?_) (fun _ _ x => x.elim))
  cases b with
  | true => rw [if_pos rfl] at hb ⊢; exact hb
  | false => rw [if_neg Bool.false_ne_true] at hb ⊢; exact hb
/-- a statement that only computes -/
theorem sg_plain {st : Stmt} (h : wpAny M (A.over c fs) (exec st env) (fun f s' => Seg M A R Y n s₀ c (K f) fs s') (fun _ _ => False) s) :
    Seg M A R Y n s₀ c ((exec st env).wrap K H gd lv) fs s := seg_wrap (wpAny_mono h (fun _ _ x => x) (fun _ _ x => x.elim))
theorem sg_For {target iter : Expr} {body orelse : List Stmt} {pos : Pos}
    (h : wpAny M (A.over c fs) (eval iter env) (fun v s₁ => wpAny M (A.over c fs) (foldedSetIterable iter env v) (fun x s₂ => wpAny M (A.over c fs) (holding [x] (pyIter x)) (fun it s₃ =>
      ∀ p, Seg M A R Y n s₀ (.forLoop target it body orelse env) (M.den (.forLoop target it body orelse env))
      (.ret (fun r => ((match r with | .ok f => (.pure f : Sem Flow) | .error e => .raise e).onRaise fun (x : Value) => do
        if (← field x 1) == Value.none then unsupported "frame.own-activation:exception-without-traceback"
        setFlight x env.frame).wrap K H gd lv) none (gd false) (lv []) c p [] :: fs) s₃) (fun _ _ => False) s₂) (fun _ _ => False) s₁) (fun _ _ => False) s) :
    Seg M A R Y n s₀ c ((exec (.For target iter body orelse pos) env).wrap K H gd lv) fs s := by
  rw [arm_exec_For]
  show Seg M A R Y n s₀ c (.at pos fun _ => ((eval iter env) >>= fun v => (foldedSetIterable iter env v) >>= fun x => standAt iter.pos >>= fun _ => (holding [x] (pyIter x)) >>= fun it => runOwn (.forLoop target it body orelse env) env).wrap K H gd lv) fs s
  refine seg_at ?_
  rw [Sem.bind_eq_wrap', Sem.wrap_wrap]
  refine seg_wrap (wpAny_mono h (fun v s₁ h₁ => ?_) (fun _ _ x => x.elim))
  rw [Sem.bind_eq_wrap', Sem.wrap_wrap]
  refine seg_wrap (wpAny_mono h₁ (fun x s₂ h₂ => ?_) (fun _ _ x => x.elim))
  refine seg_at ?_
  show Seg M A R Y n s₀ c (((holding [x] (pyIter x)) >>= fun it => runOwn (.forLoop target it body orelse env) env).wrap K H gd lv) fs s₂
  rw [Sem.bind_eq_wrap', Sem.wrap_wrap]
  refine seg_wrap (wpAny_mono h₂ (fun it s₃ h₃ => ?_) (fun _ _ x => x.elim))
  exact seg_call h₃
end
section
variable {prog : Program} {w : World} {A : Around} {R : GenEnd} {Y : Protocol} {n : Nat} {s₀ : Shared} {fs : List Frame} {s : Shared} {env : Env}
theorem sg_forLoop {target : Expr} {it : Value} {body orelse : List Stmt}
    (h : wpAny (model prog w) (A.over (.forLoop target it body orelse env) fs) (pyNext it) (fun r s₁ => match r with
        | none => Seg (model prog w) A R Y n s₀ (.block orelse env) ((model prog w).den (.block orelse env)) fs s₁
        | some v => wpAny (model prog w) (A.over (.forLoop target it body orelse env) fs) (letOwnedTupleGo target it v) (fun _ s₂ =>
            wpAny (model prog w) (A.over (.forLoop target it body orelse env) fs) (assign target env v) (fun _ s₃ =>
              Seg (model prog w) A R Y n s₀ (.forLoop target it body orelse env) ((execs body env).wrap (fun f => match f with
                | .next | .cont => .pure (.again (.forLoop target it body orelse env))
                | .brk => .pure (.done .next)
                | .ret v => .pure (.done (.ret v))) (fun e => (do noteFrame e env; theTreesLotGoes e : Sem Unit).wrap (fun _ => .raise e) .raise id id) id id) fs s₃)
              (fun _ _ => False) s₂) (fun _ _ => False) s₁) (fun _ _ => False) s) :
    Seg (model prog w) A R Y n s₀ (.forLoop target it body orelse env) ((model prog w).den (.forLoop target it body orelse env)) fs s := by
  show Seg _ A R Y n s₀ _ ((forTurn target it body orelse env).onRaise (fun x => do noteFrame x env; theTreesLotGoes x)) fs s
  unfold forTurn
  rw [Sem.onRaise_eq_wrap]
  refine seg_at (k := fun _ => (((pyNext it).onRaise (fun _ => standAt { target.pos with line := 0 })) >>= fun r => (match r with
    | none => again (.block orelse env)
    | some v => letOwnedTupleGo target it v >>= fun _ => assign target env v >>= fun _ => execs body env >>= fun f => (match f with
      | .next | .cont => again (.forLoop target it body orelse env)
      | .brk => pure (.done .next)
      | .ret v => pure (.done (.ret v)) : Sem Fin) : Sem Fin)).wrap .pure (fun e => ((do noteFrame e env; theTreesLotGoes e : Sem Unit)).bind fun _ => .raise e) id id) ?_
  rw [Sem.bind_eq_wrap', Sem.wrap_wrap]
  refine seg_wrap (wpAny_onRaise (wpAny_mono h (fun r s₁ h₁ => ?_) (fun _ _ x => x.elim)))
  cases r with
  | none => exact seg_again rfl h₁
  | some v =>
    show Seg _ A R Y n s₀ _ (Sem.wrap _ _ _ _ (letOwnedTupleGo target it v >>= fun _ => assign target env v >>= fun _ => execs body env >>= fun f => _)) fs s₁
    rw [Sem.bind_eq_wrap', Sem.wrap_wrap]
    refine seg_wrap (wpAny_mono h₁ (fun _ s₂ h₂ => ?_) (fun _ _ x => x.elim))
    rw [Sem.bind_eq_wrap', Sem.wrap_wrap]
    refine seg_wrap (wpAny_mono h₂ (fun _ s₃ h₃ => ?_) (fun _ _ x => x.elim))
    rw [Sem.bind_eq_wrap', Sem.wrap_wrap]
    rw [Sem.wrap_congr (execs body env) _ _ (K' := fun f => match f with
            | .next | .cont => .pure (.again (.forLoop target it body orelse env))
            | .brk => .pure (.done .next)
            | .ret v => .pure (.done (.ret v))) (H' := (fun e => (do noteFrame e env; theTreesLotGoes e : Sem Unit).wrap (fun _ => .raise e) .raise id id))
        (fun f => by cases f <;> rfl)
        (fun e => by first | exact Sem.bind_eq_wrap _ _ | (show (do noteFrame e env; theTreesLotGoes e : Sem Unit).bind (fun _ => .raise e) = _; rw [Sem.bind_eq_wrap]) | (show Sem.wrap _ _ _ _ _ = _; rw [Sem.bind_eq_wrap]; rfl))]
    exact h₃
end
end Mine
namespace Mine
noncomputable def GFr (fp : List Addr) (h h' : Heap) : Prop := ∀ b o, b ∉ fp → h.get? b = some o → h'.get? b = some o
structure GI (x : Str) (t : Tok) (Lg E S : Addr) (i : Nat) (h : Heap) : Prop where
  ns : ∃ m, h.Ns Lg m ∧ m (Str.ofString "escape") = some (.bool false)
  en : ∃ old, IsEnum h E S i old
  st : h.IsStrIter S "str_ascii_iterator" x t i
  d1 : Lg ≠ E
  d2 : Lg ≠ S
  d3 : E ≠ S
theorem GI.keeps {x : Str} {t : Tok} {Lg E S : Addr} {i : Nat} {h h' : Heap} (G : GI x t Lg E S i h) (k : ∀ b ∈ [Lg, E, S], ∀ o, h.get? b = some o → h'.get? b = some o) : GI x t Lg E S i h' := by
  obtain ⟨⟨m, hm, he⟩, ⟨old, ho⟩, ⟨o, h1, h2⟩, d1, d2, d3⟩ := G
  exact ⟨⟨m, hm.at fun o e => k _ (by simp) o e, he⟩, ⟨old, k _ (by simp) _ ho⟩, ⟨o, k _ (by simp) _ h1, h2⟩, d1, d2, d3⟩
/-- what the generator gives at each turn: the pair (i, ch), and it goes on from any state that kept its own objects -/
noncomputable def GY (x : Str) (t : Tok) (Lg E S : Addr) : Protocol := fun n s₀ v s' kap =>
  ∃ (i c T : Nat) (u u' : Tok) (h' : Heap) (tk' : Nat), i + n + 1 = x.cps.size ∧ x.cps[i]? = some c ∧ v = .ref T ∧ s' = { s₀ with heap := h', toks := tk' } ∧
    h'.get? T = some { cls := .type "tuple", data := .seq #[.int i u, .str ⟨#[c]⟩ u'] } ∧ (∀ b o, b ∉ [Lg, E, S] → s₀.heap.get? b = some o → b < T) ∧ (∀ b ∈ [Lg, E, S], b < T) ∧ GFr [Lg, E, S] s₀.heap h' ∧ GI x t Lg E S (i + 1) h' ∧
    ∀ s'', GI x t Lg E S (i + 1) s''.heap → kap (.send .none) s''
noncomputable def GP (Lg E S : Addr) : Nat → Shared → Shared → Prop := fun n s₀ s' => n = 0 ∧ ∃ (h' : Heap) (tk' : Nat), s' = { s₀ with heap := h', toks := tk' } ∧ GFr [Lg, E, S] s₀.heap h'
noncomputable def GR (Lg E S : Addr) : GenEnd := fun n s₀ r s' => r = .ok (.ret .none) ∧ GP Lg E S n s₀ s'
end Mine
namespace Mine
noncomputable abbrev nEsc : Str := Str.ofString "escape"
noncomputable abbrev nPos : Str := Str.ofString "pos"
noncomputable abbrev nCh : Str := Str.ofString "ch"
section
variable {prog : Program} {w : World} {A : Around} {n : Nat} {s₀ s : Shared} {fs : List Frame} {env : Env} {x : Str} {t : Tok} {E S : Addr} {i c : Nat}
  {pp pc pt p1 p2 p3 p4 p5 p6 p7 p8 p9 p10 p11 : Pos} {k0 k3 k7 : Nat} {b1 b2 : List Stmt}
noncomputable abbrev gTarget (pp pc pt : Pos) (k0 : Nat) : Expr := .Tuple [.Name nPos pp, .Name nCh pc] k0 pt
noncomputable abbrev gBody (p1 p2 p3 p4 p5 p6 p7 p8 p9 p10 p11 : Pos) (k3 k7 : Nat) (b1 b2 : List Stmt) : List Stmt :=
  [.If (.Name nEsc p1) b1 [.If (.Compare (.Name nCh p2) [.Eq] [.Constant (.str (Str.ofString "\\")) k3 p3] p4) b2 [.Expr (.Yield (some (.Tuple [.Name nPos p5, .Name nCh p6] k7 p7)) p8) p9] p10] p11]
set_option maxHeartbeats 4000000 in
theorem gen_turn (hh : (A.over (.forLoop (gTarget pp pc pt k0) (.ref E) (gBody p1 p2 p3 p4 p5 p6 p7 p8 p9 p10 p11 k3 k7 b1 b2) [] env) fs).handled = none)
    (hk : env.scope.kind = .function) (hp : (env.scope.kind == .class || (env.scope.kind == .module && env.locals != env.globals)) = false)
    (hesc : env.kindOf nEsc = some .local) (hpos : env.kindOf nPos = some .local) (hch : env.kindOf nCh = some .local) (hco : env.scope.isCoroutine = false) (hi : interactive env = false)
    (hfs : splitAtGen fs = none) (hfg : fs.any Frame.guarded = false)
    (hs : ∃ h tk, s = { s₀ with heap := h, toks := tk } ∧ GFr [env.locals, E, S] s₀.heap h) (G : GI x t env.locals E S i s.heap) (hc : x.cps[i]? = some c) (h92 : c ≠ 92) (hin : i + n + 1 = x.cps.size)
    (next : ∀ s'', GI x t env.locals E S (i + 1) s''.heap → Seg (model prog w) A (GR env.locals E S) (GY x t env.locals E S) n s'' (.forLoop (gTarget pp pc pt k0) (.ref E) (gBody p1 p2 p3 p4 p5 p6 p7 p8 p9 p10 p11 k3 k7 b1 b2) [] env)
      ((model prog w).den (.forLoop (gTarget pp pc pt k0) (.ref E) (gBody p1 p2 p3 p4 p5 p6 p7 p8 p9 p10 p11 k3 k7 b1 b2) [] env)) fs s'') :
    Seg (model prog w) A (GR env.locals E S) (GY x t env.locals E S) (n + 1) s₀ (.forLoop (gTarget pp pc pt k0) (.ref E) (gBody p1 p2 p3 p4 p5 p6 p7 p8 p9 p10 p11 k3 k7 b1 b2) [] env)
      ((model prog w).den (.forLoop (gTarget pp pc pt k0) (.ref E) (gBody p1 p2 p3 p4 p5 p6 p7 p8 p9 p10 p11 k3 k7 b1 b2) [] env)) fs s := by
  obtain ⟨⟨m, hm, hme⟩, ⟨old, he⟩, hst, d1, d2, d3⟩ := G
  have hlt : i < x.cps.size := (Array.getElem?_eq_some_iff.mp hc).1
  have hEs : E < s.heap.objs.size := Heap.lt_size he
  have hSs : S < s.heap.objs.size := by obtain ⟨o, ho, _⟩ := hst; exact Heap.lt_size ho
  have hLs : env.locals < s.heap.objs.size := hm.lt
  have D := Draws.strAscii (prog := prog) (w := w) (A := (A.over (.forLoop (gTarget pp pc pt k0) (.ref E) (gBody p1 p2 p3 p4 p5 p6 p7 p8 p9 p10 p11 k3 k7 b1 b2) [] env) fs).in1) hh S x t
  refine sg_forLoop (wpAny_pyNext_enum_itemD D he hst hlt d3 (by simpa using d3) fun xv h₁ tk hP heo hst₁ ht₁ hz₁ hk₁ => ?_)
  obtain ⟨c', u, hc', rfl⟩ := hP
  obtain rfl : c' = c := Option.some.inj (hc'.symm.trans hc)
  refine wpAny_letOwnedTupleGo_enum heo fun h₂ he₂ hs₂ => ?_
  replace hs₂ : Heap.SameBut E h₁ h₂ := hs₂
  have hz₂ : h₂.objs.size = s.heap.objs.size + 1 := hs₂.1.trans hz₁
  have ht₂ : h₂.IsTuple s.heap.objs.size #[.int i tk, .str ⟨#[c']⟩ u] := ⟨_, (hs₂.2 _ (Nat.ne_of_gt hEs)).trans ht₁, rfl, _, rfl⟩
  refine wpAny_assign_Tuple hh ht₂ rfl rfl fun h₃ hx₃ => ?_
  replace hx₃ : Heap.ExtBut h₂.objs.size h₂ h₃ := hx₃
  have k3a : ∀ b o, b < s.heap.objs.size → h₂.get? b = some o → h₃.get? b = some o := fun b o hb e => hx₃ b o (by rw [hz₂]; exact Nat.ne_of_lt (Nat.lt_succ_of_lt hb)) e
  have hn₃ : h₃.Ns env.locals m := ((hm.at fun o e => hk₁ _ o d1 d2 e).sameBut hs₂ d1).at fun o e => k3a _ o hLs e
  show wpAny _ _ (do holding [.str ⟨#[c']⟩ u] (assign (.Name nPos pp) env (.int i tk)); do holding [] (assign (.Name nCh pc) env (.str ⟨#[c']⟩ u)); pure ()) _ _ _
  refine wpAny_bind (wpAny_holding (wpAny_assign_Name (wpAny_storeName_local hpos hn₃ (fun h₄ hn₄ hs₄ => ?_) hp)))
  replace hs₄ : Heap.SameBut env.locals h₃ h₄ := hs₄
  refine wpAny_bind (wpAny_holding (wpAny_assign_Name (wpAny_storeName_local hch hn₄ (fun h₅ hn₅ hs₅ => wpAny_pure ?_) hp)))
  replace hs₅ : Heap.SameBut env.locals h₄ h₅ := hs₅
  have up : ∀ b o, b ≠ env.locals → b < s.heap.objs.size → h₂.get? b = some o → h₅.get? b = some o := fun b o hbL hb e =>
    hs₅.extBut b o hbL (hs₄.extBut b o hbL (k3a b o hb e))
  refine seg_execs_cons (sg_If (wpAny_isTrue_value (wpAny_Name (wpAny_loadName_local hk hesc hn₅ (by exact hme) (wpAny_truthy_bool ?_)) (by decide)) rfl))
  rw [if_neg Bool.false_ne_true]
  refine seg_execs_cons (sg_If (wpAny_isTrue_Compare1 (wpAny_Name (wpAny_loadName_local hk hch hn₅ (by exact rfl) (wpAny_Constant_str (PyProof.Rows.eq_str (wpAny_truthy_bool ?_)))) (by decide))))
  have hne92 : ((⟨#[c']⟩ : Str) == Str.ofString "\\") = false := by
    refine beq_eq_false_iff_ne.mpr fun e => h92 ?_
    have e2 : (⟨#[c']⟩ : Str) = ⟨#[92]⟩ := e.trans (by rfl)
    have e3 : (#[c'] : Array Nat) = #[92] := congrArg Str.cps e2
    simpa using e3
  rw [hne92, if_neg Bool.false_ne_true]
  refine seg_execs_cons (seg_Expr_Yield hfs rfl hfg (wpAny_Tuple ?_) hco hi)
  show wpAny _ _ (spliced [(false, eval (.Name nPos p5) env), (false, eval (.Name nCh p6) env)]) _ _ _
  refine spliced_cons (wpAny_Name (wpAny_loadName_local hk hpos hn₅ (by exact rfl) ?_) (by decide))
  refine spliced_cons (wpAny_Name (wpAny_loadName_local hk hch hn₅ (by exact rfl) ?_) (by decide))
  refine wpAny_pure ⟨by show 2 ≤ sizeLine; decide, fun kap hkap => ?_⟩
  obtain ⟨h, tk₀, hse, gf⟩ := hs
  have keep5 : ∀ b o, b ∉ [env.locals, E, S] → s.heap.get? b = some o → h₅.get? b = some o := fun b o hb e => by
    simp only [List.mem_cons, List.not_mem_nil, or_false, not_or] at hb
    exact up b o hb.1 (Heap.lt_size e) (hs₂.extBut b o hb.2.1 (hk₁ b o hb.2.1 hb.2.2 e))
  have heE : IsEnum h₅ E S ((i + 1 : Nat) : Int) (.str ⟨#[c']⟩ u) := by
    have : ((i + 1 : Nat) : Int) = (i : Int) + 1 := by push_cast; rfl
    rw [this]; exact up E _ (Ne.symm d1) hEs he₂
  have hS5 : h₅.IsStrIter S "str_ascii_iterator" x t (i + 1) := by
    obtain ⟨o, ho, hr⟩ := hst₁
    exact ⟨o, up S o (Ne.symm d2) hSs (hs₂.extBut S o (Ne.symm d3) ho), hr⟩
  have hL5 : env.locals < h₅.objs.size := hn₅.lt
  have hE5 : E < h₅.objs.size := Heap.lt_size heE
  have hS5' : S < h₅.objs.size := by obtain ⟨o, ho, _⟩ := hS5; exact Heap.lt_size ho
  have G5 : GI x t env.locals E S (i + 1) h₅ := ⟨⟨_, hn₅, by exact hme⟩, ⟨_, heE⟩, hS5, d1, d2, d3⟩
  subst hse
  refine ⟨i, c', h₅.objs.size, tk, u, _, _, hin, hc, rfl, rfl, Heap.get?_push_size _ rfl, fun b o hb e => Heap.lt_size (keep5 b o hb (gf b o hb e)), ?_, fun b o hb e => Heap.get?_push_of_some _ (keep5 b o hb (gf b o hb e)), G5.keeps fun b _ o e => Heap.get?_push_of_some _ e, fun s'' G' => hkap .none s'' ?_⟩
  · intro b hb
    simp only [List.mem_cons, List.not_mem_nil, or_false] at hb
    rcases hb with rfl | rfl | rfl
    · exact hL5
    · exact hE5
    · exact hS5'
  · show Seg _ _ _ _ _ _ _ (.pure (.again (.forLoop (gTarget pp pc pt k0) (.ref E) (gBody p1 p2 p3 p4 p5 p6 p7 p8 p9 p10 p11 k3 k7 b1 b2) [] env))) fs s''
    exact seg_again rfl (next s'' G')
end
end Mine
namespace Mine
section
variable {prog : Program} {w : World} {A : Around} {n : Nat} {s₀ s : Shared} {env : Env} {x : Str} {t : Tok} {E S : Addr} {i c : Nat}
  {pp pc pt p1 p2 p3 p4 p5 p6 p7 p8 p9 p10 p11 pe pf : Pos} {k0 k3 k7 : Nat} {b1 b2 b3 : List Stmt} {fbody : List Stmt} {p : Pos}
noncomputable abbrev gK0 : Flow → Sem Fin := fun f => .pure (.done (.ret (match f with | .ret v => v | _ => .none)))
noncomputable abbrev gH0 (env : Env) : Value → Sem Fin := fun e => (leaving env e).wrap (fun _ => .raise e) .raise id id
noncomputable abbrev gRest (pe pf : Pos) (b3 : List Stmt) : List Stmt := [.If (.Name nEsc pe) b3 [] pf]
noncomputable abbrev gK1 (env : Env) (pe pf : Pos) (b3 : List Stmt) : Flow → Sem Fin := fun f => match f with | .next => (execs (gRest pe pf b3) env).wrap gK0 (gH0 env) id id | f => gK0 f
noncomputable abbrev gFrame (env : Env) (pe pf : Pos) (b3 fbody : List Stmt) (p : Pos) : Frame :=
  .ret (fun r => ((match r with | .ok f => (.pure f : Sem Flow) | .error e => .raise e).onRaise fun (x : Value) => do
        if (← field x 1) == Value.none then unsupported "frame.own-activation:exception-without-traceback"
        setFlight x env.frame).wrap (gK1 env pe pf b3) (gH0 env) id id) none (id false) (id []) (.func fbody env) p []
noncomputable abbrev gLoop (env : Env) (E : Addr) (pp pc pt p1 p2 p3 p4 p5 p6 p7 p8 p9 p10 p11 : Pos) (k0 k3 k7 : Nat) (b1 b2 : List Stmt) : Code :=
  .forLoop (gTarget pp pc pt k0) (.ref E) (gBody p1 p2 p3 p4 p5 p6 p7 p8 p9 p10 p11 k3 k7 b1 b2) [] env
set_option maxHeartbeats 4000000 in
theorem gen_done (hh : A.handled = none)
    (hk : env.scope.kind = .function) (hesc : env.kindOf nEsc = some .local)
    (hs : ∃ h tk, s = { s₀ with heap := h, toks := tk } ∧ GFr [env.locals, E, S] s₀.heap h) (G : GI x t env.locals E S x.cps.size s.heap) :
    Seg (model prog w) A (GR env.locals E S) (GY x t env.locals E S) 0 s₀ (gLoop env E pp pc pt p1 p2 p3 p4 p5 p6 p7 p8 p9 p10 p11 k0 k3 k7 b1 b2)
      ((model prog w).den (gLoop env E pp pc pt p1 p2 p3 p4 p5 p6 p7 p8 p9 p10 p11 k0 k3 k7 b1 b2)) [gFrame env pe pf b3 fbody p] s := by
  obtain ⟨⟨m, hm, hme⟩, ⟨old, he⟩, hst, d1, d2, d3⟩ := G
  have D := Draws.strAscii (prog := prog) (w := w) (A := (A.over (gLoop env E pp pc pt p1 p2 p3 p4 p5 p6 p7 p8 p9 p10 p11 k0 k3 k7 b1 b2) [gFrame env pe pf b3 fbody p]).in1) hh S x t
  refine sg_forLoop (wpAny_pyNext_enum_endD D he hst fun h' hx => ?_)
  show Seg _ _ _ _ _ _ _ (leafOf (.ok .next)) [gFrame env pe pf b3 fbody p] _
  refine seg_leaf _ ?_
  show Seg _ _ _ _ _ _ _ ((execs (gRest pe pf b3) env).wrap gK0 (gH0 env) id id) [] _
  have hn' : h'.Ns env.locals m := hm.extBut hx d2
  refine seg_execs_cons (sg_If (wpAny_isTrue_value (wpAny_Name (wpAny_loadName_local hk hesc hn' hme (wpAny_truthy_bool ?_)) (by decide)) rfl))
  rw [if_neg Bool.false_ne_true]
  refine seg_execs_nil (seg_execs_nil (seg_end (.ok (.ret .none)) ⟨rfl, rfl, ?_⟩))
  obtain ⟨h, tk, rfl, gf⟩ := hs
  refine ⟨h', tk, rfl, fun b o hb e => ?_⟩
  simp only [List.mem_cons, List.not_mem_nil, or_false, not_or] at hb
  exact hx b o hb.2.2 (gf b o (by simp only [List.mem_cons, List.not_mem_nil, or_false, not_or]; exact hb) e)
set_option maxHeartbeats 4000000 in
theorem gen_loop (hh : A.handled = none)
    (hk : env.scope.kind = .function) (hp : (env.scope.kind == .class || (env.scope.kind == .module && env.locals != env.globals)) = false)
    (hesc : env.kindOf nEsc = some .local) (hpos : env.kindOf nPos = some .local) (hch : env.kindOf nCh = some .local) (hco : env.scope.isCoroutine = false) (hi : interactive env = false)
    (h92 : ∀ (j c : Nat), x.cps[j]? = some c → c ≠ 92) : ∀ (n : Nat) (i : Nat) (s₀ s : Shared), i + n = x.cps.size → GI x t env.locals E S i s.heap → (∃ h tk, s = { s₀ with heap := h, toks := tk } ∧ GFr [env.locals, E, S] s₀.heap h) →
    Seg (model prog w) A (GR env.locals E S) (GY x t env.locals E S) n s₀ (gLoop env E pp pc pt p1 p2 p3 p4 p5 p6 p7 p8 p9 p10 p11 k0 k3 k7 b1 b2)
      ((model prog w).den (gLoop env E pp pc pt p1 p2 p3 p4 p5 p6 p7 p8 p9 p10 p11 k0 k3 k7 b1 b2)) [gFrame env pe pf b3 fbody p] s
  | 0, i, s₀, s, hin, G, hs => by
    obtain rfl : i = x.cps.size := by omega
    exact gen_done hh hk hesc hs G
  | n + 1, i, s₀, s, hin, G, hs => by
    have hlt : i < x.cps.size := by omega
    exact gen_turn hh hk hp hesc hpos hch hco hi rfl rfl hs G (c := x.cps[i]) (by simp [hlt]) (h92 i _ (by simp [hlt])) (by omega) fun s'' G' =>
      gen_loop hh hk hp hesc hpos hch hco hi h92 n (i + 1) s'' s'' (by omega) G' ⟨s''.heap, s''.toks, rfl, fun _ _ _ e => e⟩
end
end Mine
namespace Mine
section
variable {prog : Program} {w : World} {A : Around} {s : Shared} {env : Env} {x : Str} {t : Tok}
  {pp pc pt p1 p2 p3 p4 p5 p6 p7 p8 p9 p10 p11 pe pf q1 q3 q4 r1 r3 r4 c1 c2 c3 c4 : Pos} {k0 k3 k7 q2 r2 : Nat} {b1 b2 b3 : List Stmt}
noncomputable abbrev nEnum : Str := Str.ofString "enumerate"
noncomputable abbrev nAddr : Str := Str.ofString "addr"
noncomputable abbrev gAll (pp pc pt p1 p2 p3 p4 p5 p6 p7 p8 p9 p10 p11 pe pf q1 q3 q4 r1 r3 r4 c1 c2 c3 c4 : Pos) (k0 k3 k7 q2 r2 : Nat) (b1 b2 b3 : List Stmt) : List Stmt :=
  [.Assign [.Name nPos q1] (.Constant (.int 0) q2 q3) q4, .Assign [.Name nEsc r1] (.Constant (.bool false) r2 r3) r4,
   .For (gTarget pp pc pt k0) (.Call (.Name nEnum c1) [.Name nAddr c2] [] c3) (gBody p1 p2 p3 p4 p5 p6 p7 p8 p9 p10 p11 k3 k7 b1 b2) [] c4, .If (.Name nEsc pe) b3 [] pf]
set_option maxHeartbeats 4000000 in
theorem gen_first (hh : A.handled = none)
    (hk : env.scope.kind = .function) (hp : (env.scope.kind == .class || (env.scope.kind == .module && env.locals != env.globals)) = false)
    (hesc : env.kindOf nEsc = some .local) (hpos : env.kindOf nPos = some .local) (hch : env.kindOf nCh = some .local) (haddr : env.kindOf nAddr = some .local) (henum : env.kindOf nEnum = some .globalImplicit)
    (hco : env.scope.isCoroutine = false) (hi : interactive env = false) (hasc : x.cps.all (· < 128) = true)
    (h92 : ∀ (j c : Nat), x.cps[j]? = some c → c ≠ 92) {m mg mb : Str → Option Value} (hm : s.heap.Ns env.locals m) (hma : m nAddr = some (.str x t)) (hg : s.heap.Ns env.globals mg) (hmg : mg nEnum = none) (hb : s.heap.Ns env.builtins mb) (hmb : mb nEnum = some (.type "enumerate"))
    (hlg : env.globals ≠ env.locals) (hlb : env.builtins ≠ env.locals) :
    Seg (model prog w) A (GR env.locals (s.heap.objs.size + 1) s.heap.objs.size) (GY x t env.locals (s.heap.objs.size + 1) s.heap.objs.size) x.cps.size s
      (.func (gAll pp pc pt p1 p2 p3 p4 p5 p6 p7 p8 p9 p10 p11 pe pf q1 q3 q4 r1 r3 r4 c1 c2 c3 c4 k0 k3 k7 q2 r2 b1 b2 b3) env)
      ((model prog w).den (.func (gAll pp pc pt p1 p2 p3 p4 p5 p6 p7 p8 p9 p10 p11 pe pf q1 q3 q4 r1 r3 r4 c1 c2 c3 c4 k0 k3 k7 q2 r2 b1 b2 b3) env)) [] s := by
  refine seg_func (seg_execs_cons (sg_plain (wpAny_Assign_Name (wpAny_Constant_int (wpAny_storeName_local hpos hm (fun h₁ hn₁ hs₁ => ?_) hp)))))
  replace hs₁ : Heap.SameBut env.locals s.heap h₁ := hs₁
  refine seg_execs_cons (sg_plain (wpAny_Assign_Name (wpAny_Constant_bool (wpAny_storeName_local hesc hn₁ (fun h₂ hn₂ hs₂ => ?_) hp))))
  replace hs₂ : Heap.SameBut env.locals h₁ h₂ := hs₂
  have hg₂ : h₂.Ns env.globals mg := (hg.sameBut hs₁ hlg).sameBut hs₂ hlg
  have hb₂ : h₂.Ns env.builtins mb := (hb.sameBut hs₁ hlb).sameBut hs₂ hlb
  have hz₂ : h₂.objs.size = s.heap.objs.size := hs₂.1.trans hs₁.1
  refine seg_execs_cons (sg_For (Call_name1 rfl (Name_function_global hk henum (loadGlobal_builtin hg₂ hmg hb₂ hmb (callWith_type1 (wpAny_Name (wpAny_loadName_local hk haddr hn₂ (by exact hma) (call_enumerate_str fun h₃ hE hS hz₃ hk₃ => ?_)) (by decide)))))))
  refine wpAny_pure (wpAny_holding (wpAny_pyIter_enum hE fun p => ?_))
  replace hk₃ : ∀ b o, h₂.get? b = some o → h₃.get? b = some o := hk₃
  have hL : env.locals < s.heap.objs.size := hm.lt
  have hS' : h₃.IsStrIter h₂.objs.size "str_ascii_iterator" x t 0 := by
    have e : strIterType x = "str_ascii_iterator" := if_pos hasc
    have h1 : h₃.IsStrIter h₂.objs.size (strIterType x) x t 0 := hS
    rw [e] at h1; exact h1
  have hL2 : env.locals < h₂.objs.size := by rw [hz₂]; exact hL
  have e1 : env.locals ≠ h₂.objs.size + 1 := Nat.ne_of_lt (Nat.lt_succ_of_lt hL2)
  have e2 : env.locals ≠ h₂.objs.size := Nat.ne_of_lt hL2
  have e3 : h₂.objs.size + 1 ≠ h₂.objs.size := Nat.succ_ne_self _
  have G : GI x t env.locals (h₂.objs.size + 1) h₂.objs.size 0 h₃ :=
    ⟨⟨_, hn₂.at fun o e => hk₃ _ o e, by exact rfl⟩, ⟨.none, hE⟩, hS', e1, e2, e3⟩
  have key := gen_loop (prog := prog) (w := w) (A := A) (env := env) (x := x) (t := t) (E := h₂.objs.size + 1) (S := h₂.objs.size) (pp := pp) (pc := pc) (pt := pt) (p1 := p1) (p2 := p2) (p3 := p3) (p4 := p4) (p5 := p5) (p6 := p6) (p7 := p7) (p8 := p8) (p9 := p9) (p10 := p10) (p11 := p11) (pe := pe) (pf := pf) (k0 := k0) (k3 := k3) (k7 := k7) (b1 := b1) (b2 := b2) (b3 := b3)
    (fbody := gAll pp pc pt p1 p2 p3 p4 p5 p6 p7 p8 p9 p10 p11 pe pf q1 q3 q4 r1 r3 r4 c1 c2 c3 c4 k0 k3 k7 q2 r2 b1 b2 b3) (p := p) hh hk hp hesc hpos hch hco hi h92 x.cps.size 0 s { s with heap := h₃, toks := s.toks + 1 + 1 + 1 } (by omega) G
    ⟨_, _, rfl, fun b o hb' e => by
      simp only [List.mem_cons, List.not_mem_nil, or_false, not_or] at hb'
      exact hk₃ b o (hs₂.extBut b o hb'.1 (hs₁.extBut b o hb'.1 e))⟩
  rw [← hz₂]
  exact key
end
end Mine
namespace Mine
section
variable {prog : Program} {w : World} {A : Around} {C : Value → Shared → Prop} {s : Shared}
/-- one next() of a generator function's object; what is left asleep needs no cleaning up -/
theorem next_gen {a : Addr} {g n : Nat} {gs : GenState} {x : Str} {t : Tok} {Lg E S : Addr} {Q : Option Value → Shared → Prop} (hh : A.handled = none) (hl : s.heap.NoLimit) (hroom : A.depth < recursionLimit)
    (hg : s.heap.IsGen a g) (hgs : s.gens[g]? = some gs)
    (hgo : gs.Goes (model prog w) A.in1 (GR Lg E S) (GY x t Lg E S) n (.send .none) (s.setGen g .running))
    (hY : ∀ v s₁ gs', gs'.bare = true → GY x t Lg E S (n - 1) (s.setGen g .running) v s₁ (fun r' s'' => match n with
        | 0 => False
        | m + 1 => gs'.Goes (model prog w) A.in1 (GR Lg E S) (GY x t Lg E S) m r' s'') → Q (some v) (s₁.setGen g gs'))
    (hP : ∀ s₁, GP Lg E S n (s.setGen g .running) s₁ → ∀ h', (∀ b o, s₁.heap.get? b = some o → h'.get? b = some o) → Q none { s₁.setGen g .finished with heap := h' }) :
    wpAny (model prog w) A (pyNext (.ref a)) Q C s := by
  have wake : wpAny (model prog w) A.in1 (Builtin.Generator.genWake (.ref a) (.send .none))
      (fun fin s₁ => ∃ v, fin = .done (.ret v) ∧ Q (some v) s₁)
      (fun e s₁ => ∃ b, (∃ o, s₁.heap.get? b = some o ∧ o.cls = .type "StopIteration") ∧ e = .ref b ∧ Q none s₁) s := by
    unfold Builtin.Generator.genWake
    refine wpAny_bind (wpAny_holding (wpAny_genNumber hg (wpAny_bind (wpAny_genState hgs ?_))))
    have gone : ∀ {β : Type} (J : β → Sem Fin) s₁, GP Lg E S n (s.setGen g .running) s₁ → wpAny (model prog w) A.in1 (newExc (.type "StopIteration") [] >>= fun e => (raiseNew e : Sem β) >>= J) (fun (fin : Fin) s₁ => ∃ v, fin = .done (.ret v) ∧ Q (some v) s₁)
        (fun e s₁ => ∃ b, (∃ o, s₁.heap.get? b = some o ∧ o.cls = .type "StopIteration") ∧ e = .ref b ∧ Q none s₁) (s₁.setGen g .finished) := by
      intro β J s₁ hp
      refine wpAny_bind ?_
      simp only [newExc, newTuple]
      refine wpAny_bind (wpAny_newObj_type ?_ (by size_fits))
      refine wpAny_bind (m := firstArgMember _ _) (wpAny_of_eq (a := Value.none) (by first | rfl | (simp only [firstArgMember]; rfl)) ?_)
      refine wpAny_newObj_type ?_ (by size_fits)
      simp only [raiseNew]
      refine wpAny_bind (wpAny_bind (wpAny_handled ?_))
      first | rw [show A.in1.handled = none from hh] | rw [hh]
      refine wpAny_throw ⟨_, ⟨_, Heap.get?_push_size _ rfl, rfl⟩, rfl, hP s₁ hp _ fun b o hb => Heap.get?_push_of_some _ (Heap.get?_push_of_some _ hb)⟩
    cases gs with
    | running => exact hgo.elim
    | finished => exact hgo.elim
    | fresh c =>
      refine wpAny_bind (wpAny_roomToWake hl hroom ?_)
      exact wpAny_resumeQ hgs hgo (fun r s₁ hr => by obtain ⟨rfl, hp⟩ := hr; exact gone _ s₁ hp) (fun v s₁ gs' hb hv => wpAny_pure ⟨v, rfl, hY v s₁ gs' hb hv⟩)
    | suspended k l c p fs cl =>
      refine wpAny_bind (wpAny_roomToWake hl hroom ?_)
      exact wpAny_resumeQ hgs hgo (fun r s₁ hr => by obtain ⟨rfl, hp⟩ := hr; exact gone _ s₁ hp) (fun v s₁ gs' hb hv => wpAny_pure ⟨v, rfl, hY v s₁ gs' hb hv⟩)
  unfold pyNext
  refine wpAny_bind (wpAny_attempt (wpAny_callSpecial?_slot (name := Str.ofString "__next__") hg.typeIs slot_gen_next
    (wpAny_call_entry slot_gen_next hg.typeIs entry_gen_next (wpAny_mono wake (fun fin s₁ h => ?_) (fun e s₁ h => ?_)) (args_gen_next _))))
  · obtain ⟨v, rfl, hq⟩ := h
    exact ⟨v, rfl, wpAny_pure hq⟩
  · obtain ⟨b, hb, rfl, hq⟩ := h
    exact wpAny_bind (wpAny_isInstance (T := "StopIteration") (b := true) hb isSubtype_stop (wpAny_pure hq))
end
end Mine
namespace Mine
section
variable {prog : Program} {w : World} {A : Around} {s : Shared} {K : Frag} {h₀ : Heap} {L f : Addr} {m : Str → Option Value} {p : Program} {loose : List Str} {mean : ExcName → Option Value} {mg mb : Str → Option Value}
  {name qual : Str} {params : Arguments} {body : List Stmt} {scope : Scope} {dV kV doc pm cdv ct oc : Value} {an od : Option Addr} {osl : Array (Option Value)} {args : Args} {binds : List (Str × Value)} {Q : Value → Shared → Prop} {C : Value → Shared → Prop}
theorem call_genK (X₀ : K.In h₀) (F : Fr h₀ L s.heap m) (T : Top p loose mean mg mb h₀)
    (ho : K.lookup f = some ⟨oc, od, .func (fnOf name qual params body scope dV kV doc pm an cdv ct), osl⟩) (hcd : codeIn K cdv qual = true) (hroom : A.depth < recursionLimit)
    (hbind : BindsTo s (fnOf name qual params body scope dV kV doc pm an cdv ct) args binds) (hloc : ∀ y ∈ binds, scope.names.lookup y.1 = some .local) (hcell : ∀ y ∈ scope.names, y.2 ≠ .cell)
    (hco : scope.isCoroutine = false) (hgen : scope.isGenerator = true) (hk : scope.kind = .function)
    (h : ∀ h₁ : Heap, h₁.Ns s.heap.objs.size (fun y => binds.reverse.lookup y) → (∀ b o, s.heap.get? b = some o → h₁.get? b = some o) → h₁.objs.size = s.heap.objs.size + 1 →
      ∀ (nm qn : Value) (tk : Nat), Q (.ref h₁.objs.size) ({ s with gens := s.gens.push (.fresh (.func body (envOf qual scope s.heap.objs.size f cdv))), toks := tk, heap := h₁.push { cls := .type "generator", data := .fields #[.int s.gens.size 0, nm, qn] } } : Shared)) :
    wpAny (model prog w) A (call (.ref f) args.pos args.kw) Q C s := by
  refine wpAny_call ?_
  have hlim := T.nolimit.keeps F.keep
  refine codeAny_call_generator hroom ((X₀.keeps F.keep) _ _ ho) rfl hco hgen rfl (codeRec_of (X₀.keeps F.keep) hcd) ?_
  refine hbind _ _ _ _ ?_
  refine wpAny_newFunctionEnv hcell hloc (fun h' hns hsb => ?_) hk
  replace hsb : Heap.SameBut s.heap.objs.size (s.heap.push { cls := .type "frame", data := .dict #[] }) h' := hsb
  have keep : ∀ b o, s.heap.get? b = some o → h'.get? b = some o := fun b o e => hsb.extBut b o (Nat.ne_of_lt (Heap.lt_size e)) (Heap.get?_push_of_some _ e)
  have size : h'.objs.size = s.heap.objs.size + 1 := by rw [hsb.1, Heap.size_push]
  exact ⟨hlim.keeps keep, h h' hns keep size _ _ _⟩
end
end Mine
namespace Mine
noncomputable abbrev nOp : Str := Str.ofString "opens"
noncomputable def stepR (c : Nat) (o : Int) : Option Int := if c = 40 then some (o + 1) else if c = 41 then (if o - 1 < 0 then none else some (o - 1)) else some o
noncomputable def chkR : List Nat → Int → Option Int
  | [], o => some o
  | c :: r, o => match stepR c o with | none => none | some o' => chkR r o'
theorem one_eq {c d : Nat} : ((⟨#[c]⟩ : Str) == ⟨#[d]⟩) = decide (c = d) := by
  by_cases h : c = d
  · subst h; simp
  · rw [decide_eq_false h]
    refine beq_eq_false_iff_ne.mpr fun e => h ?_
    have e3 : (#[c] : Array Nat) = #[d] := congrArg Str.cps e
    simpa using e3
section
variable {prog : Program} {w : World} {A : Around} {C : Value → Shared → Prop} {s : Shared} {env : Env} {m : Str → Option Value} {c : Nat} {o : Int} {u u' : Tok}
  {a1 a2 a3 a4 a5 a6 a7 a8 a9 d1 d2 d3 d4 d5 d6 d7 d8 d9 e1 e2 : Pos} {k1 k2 k3 k4 k5 k6 : Nat}
noncomputable abbrev cBody (a1 a2 a3 a4 a5 a6 a7 a8 a9 d1 d2 d3 d4 d5 d6 d7 d8 d9 e1 e2 : Pos) (k1 k2 k3 k4 k5 k6 : Nat) : List Stmt :=
  [.If (.Compare (.Name nCh a1) [.Eq] [.Constant (.str (Str.ofString "(")) k1 a2] a3) [.AugAssign (.Name nOp a4) .Add (.Constant (.int 1) k2 a5) a6]
    [.If (.Compare (.Name nCh a7) [.Eq] [.Constant (.str (Str.ofString ")")) k3 a8] a9) [.AugAssign (.Name nOp d1) .Sub (.Constant (.int 1) k4 d2) d3,
      .If (.Compare (.Name nOp d4) [.Lt] [.Constant (.int 0) k5 d5] d6) [.Return (some (.Constant (.bool false) k6 d7)) d8] [] d9] [] e1] e2]
set_option maxHeartbeats 4000000 in
theorem chk_body (hk : env.scope.kind = .function) (hp : (env.scope.kind == .class || (env.scope.kind == .module && env.locals != env.globals)) = false)
    (hch : env.kindOf nCh = some .local) (hop : env.kindOf nOp = some .local) (hm : s.heap.Ns env.locals m) (hc : m nCh = some (.str ⟨#[c]⟩ u)) (ho : m nOp = some (.int o u')) :
    wpAny (model prog w) A (execs (cBody a1 a2 a3 a4 a5 a6 a7 a8 a9 d1 d2 d3 d4 d5 d6 d7 d8 d9 e1 e2 k1 k2 k3 k4 k5 k6) env) (fun f s' => ∃ h' tk', s' = { s with heap := h', toks := tk' } ∧ Heap.SameBut env.locals s.heap h' ∧
      (match stepR c o with
        | none => f = .ret (.bool false) ∧ ∃ m', h'.Ns env.locals m'
        | some o' => f = .next ∧ ∃ m' v, h'.Ns env.locals m' ∧ m' nOp = some (.int o' v))) C s := by
  refine wpAny_execs_cons (wpAny_If (wpAny_isTrue_Compare1 (wpAny_Name (wpAny_loadName_local hk hch hm hc (wpAny_Constant_str (PyProof.Rows.eq_str (wpAny_truthy_bool ?_)))) (by decide))))
  rw [show Str.ofString "(" = ⟨#[40]⟩ from rfl, one_eq]
  by_cases h1 : c = 40
  · rw [decide_eq_true h1, if_pos rfl]
    refine wpAny_execs_cons (wpAny_AugAssign_Name (wpAny_loadName_local hk hop hm ho (wpAny_Constant_int (wpAny_iadd_int (wpAny_storeName_local hop hm (fun h' hn hs => ?_) hp)))))
    refine wpAny_execs_nil (wpAny_execs_nil ⟨_, _, rfl, hs, ?_⟩)
    rw [stepR, if_pos h1]
    exact ⟨rfl, _, _, hn, if_pos rfl⟩
  · rw [decide_eq_false h1, if_neg Bool.false_ne_true]
    refine wpAny_execs_cons (wpAny_If (wpAny_isTrue_Compare1 (wpAny_Name (wpAny_loadName_local hk hch hm hc (wpAny_Constant_str (PyProof.Rows.eq_str (wpAny_truthy_bool ?_)))) (by decide))))
    rw [show Str.ofString ")" = ⟨#[41]⟩ from rfl, one_eq]
    by_cases h2 : c = 41
    · rw [decide_eq_true h2, if_pos rfl]
      refine wpAny_execs_cons (wpAny_AugAssign_Name (wpAny_loadName_local hk hop hm ho (wpAny_Constant_int (isub_int (wpAny_storeName_local hop hm (fun h' hn hs => ?_) hp)))))
      refine wpAny_execs_cons (wpAny_If (wpAny_isTrue_Compare1 (wpAny_Name (wpAny_loadName_local hk hop hn (by exact if_pos rfl) (wpAny_Constant_int (wpAny_lt_int (wpAny_truthy_bool ?_)))) (by decide))))
      by_cases h3 : o - 1 < 0
      · rw [decide_eq_true h3, if_pos rfl]
        refine wpAny_execs_cons (wpAny_Return_some (wpAny_Constant_bool ?_))
        refine ⟨_, _, rfl, hs, ?_⟩
        rw [stepR, if_neg h1, if_pos h2, if_pos h3]
        exact ⟨rfl, _, hn⟩
      · rw [decide_eq_false h3, if_neg Bool.false_ne_true]
        refine wpAny_execs_nil (wpAny_execs_nil (wpAny_execs_nil (wpAny_execs_nil ⟨_, _, rfl, hs, ?_⟩)))
        rw [stepR, if_neg h1, if_pos h2, if_neg h3]
        exact ⟨rfl, _, _, hn, if_pos rfl⟩
    · rw [decide_eq_false h2, if_neg Bool.false_ne_true]
      refine wpAny_execs_nil (wpAny_execs_nil (wpAny_execs_nil ⟨_, _, rfl, ⟨rfl, fun _ _ => rfl⟩, ?_⟩))
      rw [stepR, if_neg h1, if_neg h2]
      exact ⟨rfl, _, _, hm, ho⟩
end
end Mine
namespace Mine
section
variable {M : Model} {A : Around} {C : Value → Shared → Prop} {s : Shared}
theorem letGo_gen {elts : List Expr} {x1} {pos : Pos} {G g T : Nat} {Q : Unit → Shared → Prop} (hg : s.heap.IsGen G g) (hQ : Q () s) :
    wpAny M A (letOwnedTupleGo (.Tuple elts x1 pos) (.ref G) (.ref T)) Q C s := by
  obtain ⟨o, nm, qn, ho, hc, hd, _⟩ := hg
  unfold letOwnedTupleGo
  refine wpAny_bind (wpAny_load ho ?_)
  rw [hc, hd]
  show wpAny M A (if (["enumerate", "zip", "dict_itemiterator", "dict_reverseitemiterator", "odict_iterator", "itertools.zip_longest", "itertools.pairwise"].contains "generator" && _) = true then _ else _) Q C s
  rw [if_neg (by simp)]
  exact wpAny_pure hQ
end
theorem setGen_bare {s : Shared} {g : Nat} {x : GenState} (h : AllBare s.gens) (hx : x.bare = true) : AllBare (s.setGen g x).gens := by
  intro y hy
  have hy' : y ∈ s.gens.setIfInBounds g x := hy
  rcases Array.mem_or_eq_of_mem_setIfInBounds hy' with h1 | h1
  · exact h y h1
  · rw [h1]; exact hx
section
variable {prog : Program} {w : World} {A : Around} {s : Shared} {env : Env} {x : Str} {t : Tok} {Lg E S G g : Nat}
  {pp pc pt a1 a2 a3 a4 a5 a6 a7 a8 a9 d1 d2 d3 d4 d5 d6 d7 d8 d9 e1 e2 : Pos} {k0 k1 k2 k3 k4 k5 k6 : Nat} {R : Result → Shared → Prop}
/-- the checker's state at the head of turn i -/
structure CI (prog : Program) (w : World) (A : Around) (env : Env) (x : Str) (t : Tok) (Lg E S G g : Nat) (s₀ : Shared) (res : Option Int) (i : Nat) (s : Shared) : Prop where
  le : i ≤ x.cps.size
  st : ∃ gs, s.gens[g]? = some gs ∧ gs.Goes (model prog w) A.in1 (GR Lg E S) (GY x t Lg E S) (x.cps.size - i) (.send .none) (s.setGen g .running)
  bare : AllBare s.gens
  gen : s.heap.IsGen G g
  op : ∃ m o u, s.heap.Ns env.locals m ∧ m nOp = some (.int o u) ∧ chkR (x.cps.toList.drop i) o = res
  fr : GFr [Lg, E, S, env.locals] s₀.heap s.heap
  os : s.os = s₀.os
  dr : s.drawn = s₀.drawn
set_option maxHeartbeats 4000000 in
theorem chk_loop {s₀ : Shared} {res : Option Int} (hh : A.handled = none) (hroom : A.depth < recursionLimit) (hk : env.scope.kind = .function) (hp : (env.scope.kind == .class || (env.scope.kind == .module && env.locals != env.globals)) = false)
    (hpos : env.kindOf nPos = some .local) (hch : env.kindOf nCh = some .local) (hop : env.kindOf nOp = some .local)
    (hlim : ∀ h, GFr [Lg, E, S, env.locals] s₀.heap h → h.NoLimit) (dL : env.locals ∉ [Lg, E, S]) (dG : G ∉ [Lg, E, S, env.locals])
    (hR1 : ∀ s', AllBare s'.gens → GFr [Lg, E, S, env.locals] s₀.heap s'.heap → s'.os = s₀.os → s'.drawn = s₀.drawn → (∃ m, s'.heap.Ns env.locals m) → res = none → R (.ok (.ret (.bool false))) s')
    (hR2 : ∀ s' m o u, AllBare s'.gens → GFr [Lg, E, S, env.locals] s₀.heap s'.heap → s'.os = s₀.os → s'.drawn = s₀.drawn → s'.heap.Ns env.locals m → m nOp = some (.int o u) → res = some o → R (.ok .next) s')
    (h0 : CI prog w A env x t Lg E S G g s₀ res 0 s) :
    codeAny (model prog w) A (.forLoop (gTarget pp pc pt k0) (.ref G) (cBody a1 a2 a3 a4 a5 a6 a7 a8 a9 d1 d2 d3 d4 d5 d6 d7 d8 d9 e1 e2 k1 k2 k3 k4 k5 k6) [] env) R s := by
  refine codeAny_forLoop_any (fun k s' => ∃ i, k = x.cps.size + 1 - i ∧ CI prog w A env x t Lg E S G g s₀ res i s') ?_ (x.cps.size + 1) ⟨0, rfl, h0⟩
  rintro k s' ⟨i, rfl, c⟩
  obtain ⟨gs, hgs, hgo⟩ := c.st
  refine next_gen hh (hlim _ c.fr) hroom c.gen hgs hgo ?_ ?_
  · intro v s₁ gs' hb hY
    obtain ⟨j, cc, T, u1, u2, h1, tk1, hj, hcj, rfl, rfl, hT, hbig, hfp, gf, G1, hkap⟩ := hY
    have hle := c.le
    cases hn : x.cps.size - i with
    | zero =>
      rw [hn] at hkap
      exact (hkap { s' with heap := h1 } G1).elim
    | succ n =>
      rw [hn] at hkap hj
      have hji : j = i := by omega
      subst hji
      obtain ⟨m, o, u, hm, ho, hr⟩ := c.op
      have notin : ∀ b, b ∉ [Lg, E, S, env.locals] → b ∉ [Lg, E, S] := fun b hb q => hb (by simp only [List.mem_cons, List.not_mem_nil, or_false] at q ⊢; rcases q with q | q | q <;> simp [q])
      have hg1 : h1.IsGen G g := by
        obtain ⟨ob, nm, qn, e1, r⟩ := c.gen
        exact ⟨ob, nm, qn, gf G ob (notin G dG) e1, r⟩
      have hm1 : h1.Ns env.locals m := hm.at fun ob e => gf _ _ dL e
      refine letGo_gen (g := g) hg1 ?_
      refine wpAny_assign_Tuple hh (items := #[.int j u1, .str ⟨#[cc]⟩ u2]) ⟨_, hT, rfl, _, rfl⟩ rfl rfl fun h2 hx2 => ?_
      replace hx2 : Heap.ExtBut h1.objs.size h1 h2 := hx2
      have k12 : ∀ b ob, h1.get? b = some ob → h2.get? b = some ob := fun b ob e => hx2 b ob (Nat.ne_of_lt (Heap.lt_size e)) e
      have hm2 : h2.Ns env.locals m := hm1.at fun ob e => k12 _ ob e
      show wpAny _ _ (do holding [.str ⟨#[cc]⟩ u2] (assign (.Name nPos pp) env (.int j u1)); do holding [] (assign (.Name nCh pc) env (.str ⟨#[cc]⟩ u2)); pure ()) _ _ _
      refine wpAny_bind (wpAny_holding (wpAny_assign_Name (wpAny_storeName_local hpos hm2 (fun h3 hn3 hs3 => ?_) hp)))
      replace hs3 : Heap.SameBut env.locals h2 h3 := hs3
      refine wpAny_bind (wpAny_holding (wpAny_assign_Name (wpAny_storeName_local hch hn3 (fun h4 hn4 hs4 => wpAny_pure ?_) hp)))
      replace hs4 : Heap.SameBut env.locals h3 h4 := hs4
      refine wpAny_mono (chk_body (C := fun _ _ => False) (c := cc) (o := o) (u := u2) (u' := u) hk hp hch hop hn4 (by exact if_pos rfl) (by exact ho)) (fun f s3 hb3 => ?_) (fun _ _ e => e.elim)
      obtain ⟨h5, tk5, rfl, hs5, hmt⟩ := hb3
      replace hs5 : Heap.SameBut env.locals h4 h5 := hs5
      have k25 : ∀ b ob, b ≠ env.locals → h1.get? b = some ob → h5.get? b = some ob := fun b ob hb e => hs5.extBut b ob hb (hs4.extBut b ob hb (hs3.extBut b ob hb (k12 b ob e)))
      have G5 : GI x t Lg E S (j + 1) h5 := G1.keeps fun b hb ob e => k25 b ob (fun q => dL (q ▸ hb)) e
      have fr5 : GFr [Lg, E, S, env.locals] s₀.heap h5 := fun b ob hb e => k25 b ob (fun q => hb (by simp [q])) (gf b ob (notin b hb) (c.fr b ob hb e))
      have hg5 : h5.IsGen G g := by
        obtain ⟨ob, nm, qn, e1, r⟩ := hg1
        exact ⟨ob, nm, qn, k25 G ob (fun q => dG (by simp [q])) e1, r⟩
      have hdrop : x.cps.toList.drop j = cc :: x.cps.toList.drop (j + 1) := by
        have hlt : j < x.cps.toList.length := by simp; omega
        rw [List.drop_eq_getElem_cons hlt]
        congr 1
        have := Array.getElem?_eq_some_iff.mp hcj
        simpa using this.2
      rw [hdrop, chkR] at hr
      have hab : AllBare ((s'.setGen g .running).setGen g gs').gens := setGen_bare (setGen_bare c.bare rfl) hb
      cases hst : stepR cc o with
      | none =>
        rw [hst] at hmt hr
        obtain ⟨rfl, m', hm'⟩ := hmt
        exact hR1 _ hab fr5 c.os c.dr ⟨_, hm'⟩ hr.symm
      | some o' =>
        rw [hst] at hmt hr
        obtain ⟨rfl, m', v', hm', ho'⟩ := hmt
        refine ⟨x.cps.size + 1 - (j + 1), by omega, j + 1, rfl, ⟨by omega, ⟨gs', setGen_self (setGen_self hgs), ?_⟩, hab, hg5, ⟨m', o', v', hm', ho', hr⟩, fr5, c.os, c.dr⟩⟩
        rw [show x.cps.size - (j + 1) = n from by omega]
        exact hkap _ G5
  · intro s₁ hP h' hx
    obtain ⟨hn, h1, tk1, rfl, gf⟩ := hP
    have hle := c.le
    have hi : i = x.cps.size := by omega
    obtain ⟨m, o, u, hm, ho, hr⟩ := c.op
    have hm' : h'.Ns env.locals m := hm.at fun ob e => hx _ _ (gf _ _ dL e)
    refine wpAny_execs_nil (hR2 _ m o u (setGen_bare (s := { s' with gens := (s'.setGen g .running).gens }) (setGen_bare c.bare rfl) rfl) ?_ c.os c.dr hm' ho ?_)
    · exact fun b ob hb e => hx _ _ (gf b ob (fun q => hb (by simp only [List.mem_cons, List.not_mem_nil, or_false] at q ⊢; rcases q with q | q | q <;> simp [q])) (c.fr b ob hb e))
    · rw [← hr, hi, show x.cps.size = x.cps.toList.length from by simp, List.drop_length]; rfl
end
end Mine
namespace Mine
variable {prog : Program} {w : World} {p : Program} {loose : List Str} {mean : ExcName → Option Value} {mg mb : Str → Option Value} {dp un : Nat} {gd : Option (List Code)} {cn : Str} {cs : Scope} {a : Addr} {ccd : Value} {cl : List (Str × Addr)} {outer : List Env} {A₀ : Around} {base h₀ : Heap} {L : Addr} {m : Str → Option Value} {s : Shared} {Q : Value → Shared → Prop} {E : Value → Shared → Prop} {news : List (Addr × Obj)}
theorem notin3 {l n c : Nat} (h1 : l < n) (h2 : c = n + 1) : l ∉ [n, c + 1 + 1, c + 1] := by
  simp only [List.mem_cons, List.not_mem_nil, or_false]; omega
theorem notin4 {b l n c : Nat} (h1 : b < n) (h2 : c = n + 1) (hl : b ≠ l) : b ∉ [n, c + 1 + 1, c + 1, l] := by
  simp only [List.mem_cons, List.not_mem_nil, or_false]; omega
theorem notin4' {l n c : Nat} (h1 : l < n) (h2 : c = n + 1) : c ∉ [n, c + 1 + 1, c + 1, l] := by
  simp only [List.mem_cons, List.not_mem_nil, or_false]; omega
theorem gcall {A : Around} {env : Env} {x : Str} {t1 u0 : Tok} {ek : Value → Shared → Prop} {R : Result → Shared → Prop} {pp pc pt a1 a2 a3 a4 a5 a6 a7 a8 a9 d1 d2 d3 d4 d5 d6 d7 d8 d9 e1 e2 : Pos} {k0 k1 k2 k3 k4 k5 k6 : Nat}
    (X : (Mine.hd.heap_39 w.params).In h₀) (F : Fr h₀ L s.heap m) (T : Top p loose mean mg mb h₀) (hL : env.locals = L) (hh : A.handled = none) (hroom : A.depth < recursionLimit)
    (hk : env.scope.kind = .function) (hp : (env.scope.kind == .class || (env.scope.kind == .module && env.locals != env.globals)) = false)
    (hpos : env.kindOf nPos = some .local) (hch : env.kindOf nCh = some .local) (hop : env.kindOf nOp = some .local)
    (hm : m nOp = some (.int 0 u0)) (hb : AllBare s.gens) (hasc : x.cps.all (· < 128) = true) (h92 : ∀ (j c : Nat), x.cps[j]? = some c → c ≠ 92)
    (hR1 : ∀ s', AllBare s'.gens → GFr [L] s.heap s'.heap → s'.os = s.os → s'.drawn = s.drawn → (∃ m, s'.heap.Ns L m) → chkR x.cps.toList 0 = none → R (.ok (.ret (.bool false))) s')
    (hR2 : ∀ s' m o u, AllBare s'.gens → GFr [L] s.heap s'.heap → s'.os = s.os → s'.drawn = s.drawn → s'.heap.Ns L m → m nOp = some (.int o u) → chkR x.cps.toList 0 = some o → R (.ok .next) s') :
    wpAny (model prog w) A (call (.ref 21) [.str x t1]) (fun v s₁ => wpAny (model prog w) A (pyIter v) (fun it s₂ =>
      codeAny (model prog w) A (.forLoop (gTarget pp pc pt k0) it (cBody a1 a2 a3 a4 a5 a6 a7 a8 a9 d1 d2 d3 d4 d5 d6 d7 d8 d9 e1 e2 k1 k2 k3 k4 k5 k6) [] env) R s₂) ek s₁) ek s := by
  subst hL
  refine call_genK (args := ⟨[.str x t1], []⟩) X F T (by k_is) (by k_is) hroom (BindsTo.of_eq rfl) (by exact locs rfl) (by decide) (by exact rfl) (by exact rfl) (by exact rfl) ?_
  intro h₁ hns keep hsz nm qn tk
  have hLs : env.locals < s.heap.objs.size := F.ns.lt
  have keep2 : ∀ b o, s.heap.get? b = some o → (h₁.push { cls := .type "generator", data := .fields #[.int s.gens.size 0, nm, qn] }).get? b = some o := fun b o e => Heap.get?_push_of_some _ (keep b o e)
  have hG : (h₁.push { cls := .type "generator", data := .fields #[.int s.gens.size 0, nm, qn] }).IsGen h₁.objs.size s.gens.size :=
    ⟨_, nm, qn, Heap.get?_push_size _ rfl, rfl, rfl, rfl⟩
  refine wpAny_pyIter_gen hG ?_
  have back : ∀ s' : Shared, GFr [s.heap.objs.size, h₁.objs.size + 1 + 1, h₁.objs.size + 1, env.locals] (h₁.push { cls := .type "generator", data := .fields #[.int s.gens.size 0, nm, qn] }) s'.heap → GFr [env.locals] s.heap s'.heap := by
    intro s' e b o hb eb
    have hlt := Heap.lt_size eb
    exact e b o (notin4 hlt hsz (fun q => hb (by rw [q]; exact List.mem_singleton.mpr rfl))) (keep2 b o eb)
  refine chk_loop (x := x) (t := t1) (Lg := s.heap.objs.size) (S := h₁.objs.size + 1) (E := h₁.objs.size + 1 + 1) (g := s.gens.size) (res := chkR x.cps.toList 0) hh hroom hk hp hpos hch hop ?lim ?dL ?dG ?r1 ?r2 ⟨Nat.zero_le _, ?st, ?bare, hG, ?op, ?fr, rfl, rfl⟩
  case lim => exact fun h e => T.nolimit.keeps fun b o eb => e b o (notin4 (Heap.lt_size (F.keep b o eb)) hsz (Nat.ne_of_lt (Nat.lt_of_lt_of_le (Heap.lt_size eb) F.above))) (keep2 b o (F.keep b o eb))
  case dL => exact notin3 hLs hsz
  case dG => exact notin4' hLs hsz
  case r1 =>
    intro s' b1 b2 b3 b4 b5 b6
    exact hR1 s' b1 (back s' b2) b3 b4 b5 b6
  case r2 =>
    intro s' m' o u b1 b2 b3 b4 b5 b6 b7
    exact hR2 s' m' o u b1 (back s' b2) b3 b4 b5 b6 b7
  case bare =>
    intro y hy
    rcases Array.mem_push.mp hy with h1 | h1
    · exact hb y h1
    · rw [h1]; rfl
  case op => exact ⟨m, 0, u0, F.ns.at fun o e => keep2 _ o e, hm, rfl⟩
  case fr => exact fun b o _ e => e
  case st =>
    refine ⟨_, Array.getElem?_push_size .., rfl, ?_⟩
    have hz : (h₁.push { cls := .type "generator", data := .fields #[.int s.gens.size 0, nm, qn] }).objs.size = h₁.objs.size + 1 := Heap.size_push ..
    have k0 : ∀ b o, h₀.get? b = some o → (h₁.push { cls := .type "generator", data := .fields #[.int s.gens.size 0, nm, qn] }).get? b = some o := fun b o e => keep2 b o (F.keep b o e)
    have lt0 : ∀ {b : Addr} {m : Str → Option Value}, h₀.Ns b m → b ≠ s.heap.objs.size := fun e => Nat.ne_of_lt (Nat.lt_trans (Nat.lt_of_lt_of_le e.lt F.above) hLs)
    rw [← hz]
    refine gen_first (A := A.in1) (mg := mg) (mb := mb) (m := ?mm) (s := Shared.setGen { heap := h₁.push { cls := .type "generator", data := .fields #[.int s.gens.size 0, nm, qn] }, gens := _, drawn := _, toks := _, os := _ } s.gens.size .running) (env := envOf _ _ s.heap.objs.size _ _) hh ?c1 ?c2 ?c3 ?c4 ?c5 ?c6 ?c7 ?c8 ?c9 hasc h92 ?hm ?c10 ?hg ?hmg ?hb ?hmb ?n1 ?n2
    case hm => exact hns.at fun o e => Heap.get?_push_of_some _ e
    case hg => exact T.g.keeps k0
    case hb => exact T.b.keeps k0
    case n1 => exact lt0 T.g
    case n2 => exact lt0 T.b
    case c1 => rfl
    case c2 => rfl
    case c3 => rfl
    case c4 => rfl
    case c5 => rfl
    case c6 => rfl
    case c7 => rfl
    case c8 => rfl
    case c9 => rfl
    case c10 => rfl
    case hmg => exact mg_none_of X T.g (by k_is)
    case hmb => exact (T.builtins _ (by decide)).trans (by decide +kernel)
end Mine
section
local macro_rules | `(tactic| walk_at "exec For Tuple Call") => `(tactic| (with_unfolding_all refine wpAny_For ?_ (by intro _; rfl)))
local macro_rules | `(tactic| walk_at "call ref") => `(tactic| ((with_reducible show wpAny _ _ (call (.ref 21) _) _ _ _); refine Mine.hold ?_))
namespace Mine
variable {prog : Program} {w : World} {p : Program} {loose : List Str} {mean : ExcName → Option Value} {mg mb : Str → Option Value} {dp un : Nat} {gd : Option (List Code)} {cn : Str} {cs : Scope} {a : Addr} {ccd : Value} {cl : List (Str × Addr)} {outer : List Env} {A₀ : Around} {base h₀ : Heap} {L : Addr} {m : Str → Option Value} {s : Shared} {Q : Value → Shared → Prop} {E : Value → Shared → Prop} {news : List (Addr × Obj)}
theorem keep_all {g' h : Heap} {y L' : Addr} {oy : Obj} {m' : Str → Option Value} {H : Heap} (G : GSub H g' [y]) (N : News h₀ L H [(y, oy)]) (F : Fr g' L' h m') (e : h.get? y = some oy) : ∀ b o, H.get? b = some o → h.get? b = some o := by
  intro b o eb
  by_cases hb : b = y
  · subst hb
    have := (N _ (List.Mem.head _)).1
    rw [this] at eb
    cases eb
    exact e
  · exact F.keep b o (G b o eb (fun q => hb (List.mem_singleton.mp q)))
theorem fr_loop {m' : Str → Option Value} {h h' : Heap} (F : Fr h₀ L h m) (hm : h'.Ns L m') (e : GFr [L] h h') : Fr h₀ L h' m' :=
  ⟨hm, fun b o eb => e b o (fun q => Nat.ne_of_lt (Nat.lt_of_lt_of_le (Heap.lt_size eb) F.above) (List.mem_singleton.mp q)) (F.keep b o eb), F.above⟩
theorem news_loop {h h' : Heap} (N : News h₀ L h news) (e : GFr [L] h h') : News h₀ L h' news :=
  fun p hp => ⟨e _ _ (fun q => (N p hp).2.1 (List.mem_singleton.mp q)) (N p hp).1, (N p hp).2⟩
set_option maxHeartbeats 8000000 in
theorem c_chk {x : Str} {t1 : Tok} {y : Nat} {oy : Obj}
  (B : Below A₀ base outer h₀) (F : Fr h₀ L s.heap m) (X : (Mine.hd.heap_39 w.params).In h₀) (N : News h₀ L s.heap [(y, oy)]) (T : Top p loose mean mg mb h₀) (hk : cs.kind = .function)
  (hd : dp + 30 < recursionLimit)
  (hq : (Builtin.Str.occurrences x (Str.ofString "\"") 0 x.length 1).isEmpty = true) (hasc : x.cps.all (· < 128) = true) (h92 : ∀ (j c : Nat), x.cps[j]? = some c → c ≠ 92) (hb : AllBare s.gens)
  (hQ : ∀ (h' : Heap) (tk' : Nat) (gs' : Array GenState), AllBare gs' → Fr h₀ L h' m → News h₀ L h' [(y, oy)] → (∀ b o, s.heap.get? b = some o → h'.get? b = some o) → Q (.bool (decide (chkR x.cps.toList 0 = some 0))) { s with heap := h', toks := tk', gens := gs' }) :
  wpAny (model prog w) (ktrTop dp un gd cn cs L a ccd cl outer) (call (.ref 35) [.str x t1]) Q E s := by
  obtain ⟨ck, cnames, c3, c4, c5⟩ := cs
  dsimp only at hk
  subst hk
  refine wpAny_call ?_
  (refine' code_defG ?k1 ?k2 ?k3 ?k4 ?k5 ?kA ?kF ?kK ?k6 ?k7 ?k8 ?k9 ?kB ?_ ?c2 ?c3 ?c4 ?c5; (case kA => exact rfl); (case kF => exact rfl); (case kK => exact rfl); (case k1 => k_asm); (case k2 => k_asm); (case k3 => k_asm); (case k4 => k_asm); (case k5 => k_asm); (case k6 => k_is); (case k7 => k_is); (case k8 => k_room); (case k9 => exact BindsTo.of_eq rfl); (case c5 => decide); (case kB => exact locs rfl); (case c2 => exact rfl); (case c3 => exact rfl); (case c4 => exact rfl); k_whole; intro g' L' h' FG' F' N' B' X' T' GS'; (try dsimp only); (try k_lift B'); (try k_fold))
  k_steps
  all_goals (first | (exfalso; rw [hq] at *; contradiction) | skip)
  rename_i F9 N9
  refine (show wpAny _ _ _ _ _ _ from ?_)
  refine gcall X' F9 T' rfl (by rfl) (by k_room) rfl (by rfl) (by rfl) (by rfl) (by rfl) (by exact if_pos rfl) hb hasc h92 ?r1 ?r2
  case r1 =>
    intro s' b1 b2 b3 b4 b5 b6
    obtain ⟨hp, gs, dr, tk, os⟩ := s'
    obtain ⟨m2, hm2⟩ := b5
    dsimp only at b1 b2 b3 b4 hm2
    subst b3 b4
    have F2 := fr_loop F9 hm2 b2
    have N2 := news_loop N9 b2
    show LeaveK h₀ L m g' _ _ _
    refine leaveK_ (news' := [(y, oy)]) F2 N2 fun F3 N3 => ?_
    have := hQ hp tk gs b1 F3 N3 (keep_all GS' N F2 (N2 _ (List.Mem.head _)).1)
    rw [b6] at this
    exact this
  case r2 =>
    intro s' m' o u b1 b2 b3 b4 hm2 ho b7
    obtain ⟨hp, gs, dr, tk, os⟩ := s'
    dsimp only at b1 b2 b3 b4 hm2
    subst b3 b4
    have F2 := fr_loop F9 hm2 b2
    have N2 := news_loop N9 b2
    refine wpAny_execs_cons (wpAny_Return_some (wpAny_Compare1 (wpAny_Name (wpAny_loadName_local rfl (by rfl) hm2 ho (wpAny_Constant_int (wpAny_eq_int ?_))) (by decide))))
    show LeaveK h₀ L m g' _ _ _
    refine leaveK_ (news' := [(y, oy)]) F2 N2 fun F3 N3 => ?_
    have key : ∀ tk, Q (.bool (o == 0)) { s with heap := hp, toks := tk, gens := gs } := by
      intro tk
      have := hQ hp tk gs b1 F3 N3 (keep_all GS' N F2 (N2 _ (List.Mem.head _)).1)
      rw [b7, show decide (some o = some (0 : Int)) = (o == 0) from by by_cases h : o = 0 <;> simp [h]] at this
      exact this
    exact key _
theorem chk {x : Str} {t1 : Tok} {b : Bool} {full : List (Addr × Obj)} {q : Addr × Obj} (hq1 : q ∈ full)
  (hq : (Builtin.Str.occurrences x (Str.ofString "\"") 0 x.length 1).isEmpty = true) (hasc : x.cps.all (· < 128) = true) (h92 : x.cps.all (· != 92) = true) (hres : decide (chkR x.cps.toList 0 = some 0) = b) (hb : AllBare s.gens)
  (B : Below A₀ base outer h₀) (F : Fr h₀ L s.heap m) (X : (Mine.hd.heap_39 w.params).In h₀) (N : News h₀ L s.heap full) (T : Top p loose mean mg mb h₀) (hk : cs.kind = .function)
  (hd : dp + 30 < recursionLimit)
  (hQ : ∀ (h' : Heap) (tk' : Nat) (gs' : Array GenState), AllBare gs' → (∀ b o, s.heap.get? b = some o → h'.get? b = some o) → Fr h₀ L h' m → News h₀ L h' full → Q (.bool b) { s with heap := h', toks := tk', gens := gs' }) :
  wpAny (model prog w) (ktrTop dp un gd cn cs L a ccd cl outer) (call (.ref 35) [.str x t1]) Q E s := by
  subst hres
  obtain ⟨y, oy, hy, hmax⟩ := has_max hq1
  refine c_chk B F X (y := y) (oy := oy) (cb_drop N ?_) T hk hd hq hasc ?_ hb ?_
  · exact List.forall_mem_cons.mpr ⟨hy, fun _ hp => nomatch hp⟩
  · intro j c hj
    have := Array.all_eq_true'.mp h92 c (Array.mem_of_getElem? hj)
    simpa using this
  · intro h' tk' gs' hb' F' N' G
    exact hQ h' tk' gs' hb' G F' (N.grown G)
end Mine
end
namespace Mine
noncomputable abbrev nRow : Str := Str.ofString "row"
inductive AreS : List Value → List Str → Prop
  | nil : AreS [] []
  | cons {x : Str} {t : Tok} {vs : List Value} {xs : List Str} : AreS vs xs → AreS (.str x t :: vs) (x :: xs)
theorem AreS.length {vs : List Value} {xs : List Str} (h : AreS vs xs) : vs.length = xs.length := by
  induction h with
  | nil => rfl
  | cons _ ih => simp [ih]
theorem AreS.append {vs ws : List Value} {xs ys : List Str} (h : AreS vs xs) (k : AreS ws ys) : AreS (vs ++ ws) (xs ++ ys) := by
  induction h with
  | nil => exact k
  | cons _ ih => exact .cons ih
theorem AreS.get {vs : List Value} {xs : List Str} (h : AreS vs xs) : ∀ {j : Nat} {v : Value}, vs[j]? = some v → ∃ x t, xs[j]? = some x ∧ v = .str x t := by
  induction h with
  | nil => intro j v e; simp at e
  | @cons x t _ _ _ ih =>
    intro j v e
    cases j with
    | zero => simp at e; exact ⟨x, t, rfl, e.symm⟩
    | succ j => simp at e; simpa using ih e
theorem AreS.paired {c : Str} {vs : List Value} {xs : List Str} (h : AreS vs xs) : ∀ {ys : List Value}, Paired (fun v y => ∃ x t u, v = .str x t ∧ y = .str (c ++ x) u) vs ys → AreS ys (xs.map (c ++ ·)) := by
  induction h with
  | nil => intro ys p; cases p; exact .nil
  | cons _ ih =>
    intro ys p
    cases p with
    | cons f r =>
      obtain ⟨x, t, u, e, rfl⟩ := f
      cases e
      exact .cons (ih r)
theorem filter_all {α : Type} (l : List α) : l.filter (fun _ => true) = l := by simp
theorem list_is {vs ys : List Value} (hl : vs.length = ys.length) (h : ∀ (j : Nat) (v : Value), vs[j]? = some v → ys[j]? = some v) : vs = ys := by
  apply List.ext_getElem? ; intro j
  rcases Nat.lt_or_ge j vs.length with k | k
  · rw [List.getElem?_eq_getElem k, h j _ (List.getElem?_eq_getElem k)]
  · rw [List.getElem?_eq_none k, List.getElem?_eq_none (hl ▸ k)]
section
variable {prog : Program} {w : World} {A : Around} {C : Value → Shared → Prop} {s : Shared} {env : Env} {c : Str} {l : List Str} {iter : Expr} {scope : Scope} {p1 p2 p3 p4 pos : Pos} {k : Nat} {Q : Value → Shared → Prop}
theorem rowcomp (hh : A.handled = none) (hfree : ∀ y ∈ scope.names, y.2 ≠ .free) (hcell : ∀ y ∈ scope.names, y.2 ≠ .cell) (hkind : scope.kind = .function)
    (hnames : ∀ y ∈ scope.names, y.2 = .local → scope.names.lookup y.1 = some .local) (hx : scope.names.lookup nRow = some .local) (hs : ∀ x, foldedSetIterable iter env x = pure x)
    (hc : ∀ x ∈ l, c.length + x.length ≤ sizeLine) (hl : l.length ≤ sizeLine)
    (hit : ∀ Q' : Value → Shared → Prop, (∀ (D : Nat) (h' : Heap) (tk' : Nat) (ys : List Value) (n : Nat), AreS ys l → (∀ b o, s.heap.get? b = some o → h'.get? b = some o) → h'.get? D = some (listOf ys.toArray n) → Q' (.ref D) { s with heap := h', toks := tk' }) → wpAny (model prog w) A (eval iter env) Q' C s)
    (hQ : ∀ (D : Nat) (h' : Heap) (tk' : Nat) (ys : List Value) (n : Nat), AreS ys (l.map (c ++ ·)) → (∀ b o, s.heap.get? b = some o → h'.get? b = some o) → s.heap.get? D = none → h'.get? D = some (listOf ys.toArray n) → Q (.ref D) { s with heap := h', toks := tk' }) :
    wpAny (model prog w) A (eval (.ListComp (.BinOp (.Constant (.str c) k p1) .Add (.Name nRow p2) p3) [⟨.Name nRow p4, iter, [], 0⟩] scope pos) env) Q C s := by
  refine wpAny_ListComp_walk (fun _ => true) (fun v y => ∃ x t u, v = .str x t ∧ y = .str (c ++ x) u) hfree hcell hkind hnames hx (hit _ ?_) hs
  intro D h' tk' ys n hA hk hD
  have hP : h'.IsList D ys.toArray := ⟨_, hD, rfl, n, rfl⟩
  refine wpAny_pyIter_list hP ?_
  have hlt : D < h'.objs.size := Heap.lt_size hD
  have up : ∀ b o, h'.get? b = some o → (h'.push { cls := .type "list_iterator", data := .fields #[.ref D, .int 0 0] }).get? b = some o := fun b o e => Heap.get?_push_of_some _ e
  refine ⟨h'.objs.size, _, _, _, _, _, rfl, Walks.list hh h'.objs.size D (Nat.ne_of_lt hlt) ys.toArray, ?_, ⟨⟨_, Heap.get?_push_size _ rfl, rfl, rfl⟩, ⟨_, up _ _ hD, rfl, n, rfl⟩⟩, ?_, ⟨?_, ?_⟩, ?_⟩
  · simpa [hA.length] using hl
  · intro b hb
    have hz : (h'.push { cls := .type "list_iterator", data := .fields #[.ref D, .int 0 0] }).objs.size = h'.objs.size + 1 := Heap.size_push ..
    show b < (h'.push { cls := .type "list_iterator", data := .fields #[.ref D, .int 0 0] }).objs.size
    rw [hz]
    rcases List.mem_cons.mp hb with h | h
    · rw [h]; exact Nat.lt_succ_self _
    · rw [List.mem_singleton.mp h]; exact Nat.lt_succ_of_lt hlt
  · intro C' i v s₃ m₃ E' _ _ _ _ _
    exact wpAny_tests_nil ⟨rfl, s₃.heap, s₃.toks, rfl, fun _ _ e => e⟩
  · intro C' i v s₃ m₃ E' hv _ hn hm _ _
    obtain ⟨x, t, hx', rfl⟩ := hA.get (show ys[i]? = some v by simpa using hv)
    refine wpAny_BinOp (wpAny_Constant_str (wpAny_Name (wpAny_loadName_local hkind hx hn hm ?_) (by decide)))
    refine add_str (fun t' tk => ⟨⟨x, t, t', rfl, rfl⟩, s₃.heap, tk, rfl, fun _ _ e => e⟩) (hc x (List.mem_of_getElem? hx'))
  · intro D' h'' tk ys' vs hnew _ hpl hlen hP' hF hk'
    have e : vs = ys := list_is (by simpa using hlen) fun j v hv => by simpa using hP' j v hv
    subst e
    obtain ⟨n', hn'⟩ := hpl
    have keep : ∀ b o, s.heap.get? b = some o → h''.get? b = some o := fun b o e => hk' b o (fun q => absurd (Heap.lt_size (hk b o e)) ((List.mem_singleton.mp q) ▸ Nat.lt_irrefl _)) (up b o (hk b o e))
    have fresh : s.heap.get? D' = none := by
      cases e : s.heap.get? D' with
      | none => rfl
      | some o => rw [up _ _ (hk _ _ e)] at hnew; cases hnew
    rw [filter_all] at hF
    exact hQ D' h'' tk ys'.toList n' (hA.paired hF) keep fresh (by simpa using hn')
end
end Mine
section
local macro_rules | `(tactic| walk_at "eval ListComp") => `(tactic| ((with_reducible show wpAny _ _ (eval (Expr.ListComp _ _ _ _) _) _ _ _); refine Mine.hold ?_))
local macro_rules | `(tactic| walk_at "call ref") => `(tactic| ((with_reducible show wpAny _ _ (call (.ref 96) _) _ _ _); refine Mine.hold ?_))
local macro_rules | `(tactic| walk_at "none 1") => `(tactic| fail)
namespace Mine
variable {prog : Program} {w : World} {p : Program} {loose : List Str} {mean : ExcName → Option Value} {mg mb : Str → Option Value} {dp un : Nat} {gd : Option (List Code)} {cn : Str} {cs : Scope} {a : Addr} {ccd : Value} {cl : List (Str × Addr)} {outer : List Env} {A₀ : Around} {base h₀ : Heap} {L : Addr} {m : Str → Option Value} {s : Shared} {Q : Value → Shared → Prop} {E : Value → Shared → Prop} {news : List (Addr × Obj)}
noncomputable def rowsB (f : Nat → List Str) (z : List Str) : Nat → List Str
  | 0 => z
  | b + 1 => (f (b + 1)).map (Str.ofString "(" ++ ·) ++ (rowsB f z b).map (Str.ofString ")" ++ ·)
noncomputable def rowsL : Nat → Nat → List Str
  | 0 => fun b => [Txt.mul (Str.ofString "(") (0 : Nat) ++ Txt.mul (Str.ofString ")") b]
  | a + 1 => rowsB (rowsL a) [Txt.mul (Str.ofString "(") (a + 1 : Nat) ++ Txt.mul (Str.ofString ")") (0 : Nat)]
/-- the contract of _law_rows, at one pair -/
structure RowsC (prog : Program) (w : World) (a0 b0 : Int) (l : List Str) : Prop where
  use : ∀ {p : Program} {loose : List Str} {mean : ExcName → Option Value} {mg mb : Str → Option Value} {dp un : Nat} {gd : Option (List Code)} {cn : Str} {cs : Scope} {a : Addr} {ccd : Value} {cl : List (Str × Addr)} {outer : List Env} {A₀ : Around} {base h₀ : Heap} {L : Addr} {m : Str → Option Value} {s : Shared} {Q : Value → Shared → Prop} {E : Value → Shared → Prop} {t1 t2 : Tok} {y : Nat} {oy : Obj},
  Below A₀ base outer h₀ → Fr h₀ L s.heap m → (Mine.hd.heap_39 w.params).In h₀ → News h₀ L s.heap [(y, oy)] → Top p loose mean mg mb h₀ → cs.kind = .function → dp + (a0 + b0).toNat + 10 < recursionLimit →
  (∀ (D : Nat) (h' : Heap) (tk' : Nat) (ys : List Value) (n : Nat), AreS ys l → y < D → Fr h₀ L h' m → News h₀ L h' [(D, listOf ys.toArray n), (y, oy)] → (∀ b o, s.heap.get? b = some o → h'.get? b = some o) → Q (.ref D) { s with heap := h', toks := tk' }) →
  wpAny (model prog w) (ktrTop dp un gd cn cs L a ccd cl outer) (call (.ref 96) [.int a0 t1, .int b0 t2]) Q E s
set_option maxHeartbeats 8000000 in
theorem c_rowsB {a0 b0 : Int} (h0 : a0 = 0 ∨ b0 = 0) (ha : 0 ≤ a0) (ha4 : a0 ≤ 4) (hb : 0 ≤ b0) (hb4 : b0 ≤ 4) : RowsC prog w a0 b0 [Txt.mul (Str.ofString "(") a0 ++ Txt.mul (Str.ofString ")") b0] := by
  refine ⟨?_⟩
  intro p loose mean mg mb dp un gd cn cs a ccd cl outer A₀ base h₀ L m s Q E t1 t2 y oy B F X N T hk hd hQ
  obtain ⟨ck, cnames, c3, c4, c5⟩ := cs
  dsimp only at hk
  subst hk
  refine wpAny_call ?_
  (refine' code_defG ?k1 ?k2 ?k3 ?k4 ?k5 ?kA ?kF ?kK ?k6 ?k7 ?k8 ?k9 ?kB ?_ ?c2 ?c3 ?c4 ?c5; (case kA => exact rfl); (case kF => exact rfl); (case kK => exact rfl); (case k1 => k_asm); (case k2 => k_asm); (case k3 => k_asm); (case k4 => k_asm); (case k5 => k_asm); (case k6 => k_is); (case k7 => k_is); (case k8 => k_room); (case k9 => exact BindsTo.of_eq rfl); (case c5 => decide); (case kB => exact locs rfl); (case c2 => exact rfl); (case c3 => exact rfl); (case c4 => exact rfl); k_whole; intro g' L' h' FG' F' N' B' X' T' GS'; (try dsimp only); (try k_lift B'); (try k_fold))
  k_steps
  all_goals (first | (exfalso; omega) | skip)
  all_goals (refine' hQ _ _ _ [_] 0 (AreS.cons AreS.nil) ?hy ?cf ?cn ?gs; (case cf => assumption); (case cn => assumption); (case hy => omega); (case gs => exact keep_all GS' N (by assumption) ((‹News g' L' _ _› _ (List.Mem.tail _ (List.Mem.head _))).1)))
noncomputable def RowsUp (prog : Program) (w : World) (n : Int) : Prop := ∀ a0 b0 : Int, 0 ≤ a0 → 0 ≤ b0 → a0 ≤ 4 → b0 ≤ 4 → a0 + b0 ≤ n → RowsC prog w a0 b0 (rowsL a0.toNat b0.toNat)
set_option maxHeartbeats 8000000 in
theorem c_rowsS {n a0 b0 : Int} (IH : RowsUp prog w n) (ha : 0 < a0) (ha4 : a0 ≤ 4) (hb : 0 < b0) (hb4 : b0 ≤ 4) (hn : a0 + b0 ≤ n + 1) (hlen : ∀ a b : Nat, a ≤ 4 → b ≤ 4 → (rowsL a b).length ≤ 200 ∧ ∀ x ∈ rowsL a b, x.length ≤ 20) : RowsC prog w a0 b0 (rowsL a0.toNat b0.toNat) := by
  refine ⟨?_⟩
  intro p loose mean mg mb dp un gd cn cs a ccd cl outer A₀ base h₀ L m s Q E t1 t2 y oy B F X N T hk hd hQ
  obtain ⟨ck, cnames, c3, c4, c5⟩ := cs
  dsimp only at hk
  subst hk
  refine wpAny_call ?_
  (refine' code_defG ?k1 ?k2 ?k3 ?k4 ?k5 ?kA ?kF ?kK ?k6 ?k7 ?k8 ?k9 ?kB ?_ ?c2 ?c3 ?c4 ?c5; (case kA => exact rfl); (case kF => exact rfl); (case kK => exact rfl); (case k1 => k_asm); (case k2 => k_asm); (case k3 => k_asm); (case k4 => k_asm); (case k5 => k_asm); (case k6 => k_is); (case k7 => k_is); (case k8 => k_room); (case k9 => exact BindsTo.of_eq rfl); (case c5 => decide); (case kB => exact locs rfl); (case c2 => exact rfl); (case c3 => exact rfl); (case c4 => exact rfl); k_whole; intro g' L' h' FG' F' N' B' X' T' GS'; (try dsimp only); (try k_lift B'); (try k_fold))
  k_steps
  all_goals (first | (exfalso; omega) | skip)
  refine (show wpAny _ _ _ _ _ _ from ?_)
  have e40 : (40 : Nat) ≤ sizeLine := by decide
  have e1 : (Str.ofString "(").length = 1 := by decide
  have e2 : (Str.ofString ")").length = 1 := by decide
  refine rowcomp (l := rowsL (a0 - 1).toNat b0.toNat) rfl (by decide) (by decide) rfl (by decide) rfl (by intro _; rfl) ?_ ?_ ?it ?q
  · intro x hx
    have := (hlen (a0 - 1).toNat b0.toNat (by omega) (by omega)).2 x hx
    rw [e1]
    omega
  · exact Nat.le_trans (hlen _ _ (by omega) (by omega)).1 (by decide)
  case it =>
    intro Q' hQ'
    k_steps
    refine (show wpAny _ _ _ _ _ _ from ?_)
    refine (IH (a0 - 1) b0 (by omega) (by omega) (by omega) (by omega) (by omega)).use B' F' X' N' T' rfl ?hd ?hq
    case hd => k_room
    case hq => exact fun D h' tk' ys n hA hy F2 N2 hk => hQ' D h' tk' ys n hA hk (N2 _ (List.Mem.head _)).1
  case q =>
    intro D1 h1 tk1 ys1 n1 hA1 hk1 hf1 hD1
    have F1 := F'.keeps hk1
    have N1 := N'.grown hk1
    have K1 : ∀ b o, h'.get? b = some o → h1.get? b = some o := hk1
    clear F' hk1
    refine rowcomp (l := rowsL a0.toNat (b0 - 1).toNat) rfl (by decide) (by decide) rfl (by decide) rfl (by intro _; rfl) ?_ ?_ ?it ?q
    · intro x hx
      have := (hlen a0.toNat (b0 - 1).toNat (by omega) (by omega)).2 x hx
      rw [e2]
      omega
    · exact Nat.le_trans (hlen _ _ (by omega) (by omega)).1 (by decide)
    case it =>
      intro Q' hQ'
      clear N'
      k_steps
      refine (show wpAny _ _ _ _ _ _ from ?_)
      refine (IH a0 (b0 - 1) (by omega) (by omega) (by omega) (by omega) (by omega)).use B' F1 X' N1 T' rfl ?hd ?hq
      case hd => k_room
      case hq => exact fun D h' tk' ys n hA hy F2 N2 hk => hQ' D h' tk' ys n hA hk (N2 _ (List.Mem.head _)).1
    case q =>
      intro D2 h2 tk2 ys2 n2 hA2 hk2 hf2 hD2
      refine P.add_list (hk2 _ _ hD1) hD2 ?_ ?_
      · have up : ∀ b o, h1.get? b = some o → (h2.push { cls := .type "list", data := .seq (ys1.toArray ++ ys2.toArray) }).get? b = some o := fun b o e => Heap.get?_push_of_some _ (hk2 b o e)
        have F2 := F1.keeps hk2
        have F3 := F1.keeps up
        have N3 := N1.grown up
        have N4 : News g' L' (h2.push { cls := .type "list", data := .seq (ys1.toArray ++ ys2.toArray) }) [(h2.objs.size, listOf (ys1 ++ ys2).toArray 0), (y, oy)] := by
          refine List.forall_mem_cons.mpr ⟨⟨?_, ?_, ?_⟩, N3⟩
          · rw [show (ys1 ++ ys2).toArray = ys1.toArray ++ ys2.toArray from by simp]
            exact Heap.get?_push_size _ rfl
          · exact Nat.ne_of_gt F2.ns.lt
          · cases e : g'.get? h2.objs.size with
            | none => rfl
            | some o => exact absurd (Heap.lt_size (F2.keep _ _ e)) (Nat.lt_irrefl _)
        have hy2 : y < h2.objs.size := Heap.lt_size (hk2 _ _ (N1 _ (List.Mem.head _)).1)
        show LeaveK h₀ L m g' _ _ _
        refine leaveK_ F3 N4 fun F5 N5 => ?_
        refine hQ _ _ _ (ys1 ++ ys2) 0 ?_ hy2 F5 N5 (keep_all GS' N F3 (N4 _ (List.Mem.tail _ (List.Mem.head _))).1)
        have := hA1.append hA2
        rw [show a0.toNat = (a0 - 1).toNat + 1 from by omega, show b0.toNat = (b0 - 1).toNat + 1 from by omega] at *
        exact this
      · have h3 := (hlen (a0 - 1).toNat b0.toNat (by omega) (by omega)).1
        have h4 := (hlen a0.toNat (b0 - 1).toNat (by omega) (by omega)).1
        have h5 := hA1.length
        have h6 := hA2.length
        have h7 : (400 : Nat) ≤ sizeLine := by decide
        simp only [List.size_toArray, h5, h6, List.length_map]
        omega
theorem rows_up (hlen : ∀ a b : Nat, a ≤ 4 → b ≤ 4 → (rowsL a b).length ≤ 200 ∧ ∀ x ∈ rowsL a b, x.length ≤ 20) : ∀ n : Nat, RowsUp prog w (n : Int) := by
  intro n
  induction n with
  | zero =>
    intro a0 b0 ha hb ha4 hb4 hn
    obtain rfl : a0 = ((0 : Nat) : Int) := by omega
    obtain rfl : b0 = ((0 : Nat) : Int) := by omega
    have h9 := @c_rowsB prog w _ _ (.inl rfl) ha ha4 hb hb4
    exact h9
  | succ n ih =>
    intro a0 b0 ha hb ha4 hb4 hn
    by_cases h1 : a0 = 0
    · obtain ⟨k, rfl⟩ : ∃ k : Nat, b0 = (k : Int) := ⟨b0.toNat, by omega⟩
      obtain rfl : a0 = ((0 : Nat) : Int) := h1
      have h9 := @c_rowsB prog w _ _ (.inl rfl) ha ha4 hb hb4
      exact h9
    · by_cases h2 : b0 = 0
      · obtain rfl : b0 = ((0 : Nat) : Int) := h2
        obtain ⟨k, rfl⟩ : ∃ k : Nat, a0 = ((k + 1 : Nat) : Int) := ⟨a0.toNat - 1, by omega⟩
        have h9 := @c_rowsB prog w _ _ (.inr rfl) ha ha4 hb hb4
        exact h9
      · have h9 := @c_rowsS prog w _ _ _ ih (by omega) ha4 (by omega) hb4 (by omega) hlen
        exact h9
theorem rows_len : ∀ a b : Nat, a ≤ 4 → b ≤ 4 → (rowsL a b).length ≤ 200 ∧ ∀ x ∈ rowsL a b, x.length ≤ 20 := by
  have key : (List.range 5).all (fun a => (List.range 5).all fun b => decide ((rowsL a b).length ≤ 200) && (rowsL a b).all fun x => decide (x.length ≤ 20)) = true := by decide +kernel
  intro a b ha hb
  have h1 := List.all_eq_true.mp (List.all_eq_true.mp key a (List.mem_range.mpr (by omega))) b (List.mem_range.mpr (by omega))
  rw [Bool.and_eq_true] at h1
  exact ⟨of_decide_eq_true h1.1, fun x hx => of_decide_eq_true (List.all_eq_true.mp h1.2 x hx)⟩
theorem c_rows {n : Nat} (hn : n ≤ 4) : RowsC prog w n n (rowsL n n) := by
  have h9 := @rows_up prog w rows_len (n + n) n n (by omega) (by omega) (by omega) (by omega) (by omega)
  exact h9
theorem rows {n : Nat} {z : Int} {l : List Str} {full : List (Addr × Obj)} {q : Addr × Obj} {t1 t2 : Tok} (hq1 : q ∈ full) (hn : n ≤ 4) (hz : z = (n : Int)) (hl : rowsL n n = l)
  (B : Below A₀ base outer h₀) (F : Fr h₀ L s.heap m) (X : (Mine.hd.heap_39 w.params).In h₀) (N : News h₀ L s.heap full) (T : Top p loose mean mg mb h₀) (hk : cs.kind = .function) (hd : dp + 30 < recursionLimit)
  (hQ : ∀ (D : Nat) (h' : Heap) (tk' : Nat) (ys : List Value) (k : Nat), AreS ys l → AllLt D full → (∀ b o, s.heap.get? b = some o → h'.get? b = some o) → Fr h₀ L h' m → News h₀ L h' ((D, listOf ys.toArray k) :: full) → Q (.ref D) { s with heap := h', toks := tk' }) :
  wpAny (model prog w) (ktrTop dp un gd cn cs L a ccd cl outer) (call (.ref 96) [.int z t1, .int z t2]) Q E s := by
  subst hl hz
  obtain ⟨y, oy, hy, hmax⟩ := has_max hq1
  refine (c_rows hn).use B F X (y := y) (oy := oy) (cb_drop N ?_) T hk (by omega) ?_
  · exact List.forall_mem_cons.mpr ⟨hy, fun _ hp => nomatch hp⟩
  · intro D h' tk' ys k hA hD F' N' G
    exact hQ D h' tk' ys k hA (lt_of_max hmax hD) G F' (List.forall_mem_cons.mpr ⟨N' _ (List.Mem.head _), N.grown G⟩)
end Mine
end
namespace Mine
noncomputable def KeepG (s s' : Shared) : Prop := ∃ h' tk g', s' = { s with heap := h', toks := tk, gens := g' } ∧ AllBare g' ∧ ∀ b o, s.heap.get? b = some o → h'.get? b = some o
section
variable {prog : Program} {w : World} {A : Around} {s : Shared} {R : Result → Shared → Prop} {test iter : Expr} {scope : Scope} {pos p1 px : Pos} {items : List Value} {xs : List Str}
theorem filtloop {I ax D : Nat} {cenv : Env} {m : Str → Option Value} (f : Str → Bool) (hA : AreS items xs) (hh : A.handled = none) (hx : cenv.kindOf nRow = some .local) (hk : cenv.scope.kind = .function)
    (hDI : D ≠ I) (hDC : D ≠ cenv.locals) (hIC : I ≠ cenv.locals) (haI : ax ≠ I) (haC : ax ≠ cenv.locals) (haD : ax ≠ D)
    (hit : s.heap.IsListIter I ax 0) (hl : s.heap.IsList ax items.toArray) (hacc : s.heap.PlainList D #[]) (hn : s.heap.Ns cenv.locals m) (hb : AllBare s.gens) (hsz : items.length ≤ sizeLine)
    (htest : ∀ x t s₂ m₂ E', x ∈ xs → s₂.heap.Ns cenv.locals m₂ → m₂ nRow = some (.str x t) → (∀ b o, b ≠ cenv.locals → b ≠ I → b ≠ D → s.heap.get? b = some o → s₂.heap.get? b = some o) → AllBare s₂.gens →
      wpAny (model prog w) A (isTrue test cenv (eval test cenv)) (fun ok s₃ => ok = f x ∧ KeepG s₂ s₃) E' s₂)
    (hR : ∀ h' tk g' m' (ys : List Value), h'.Ns cenv.locals m' → h'.PlainList D ys.toArray → AreS ys (xs.filter f) → AllBare g' → (∀ b o, b ≠ cenv.locals → b ≠ I → b ≠ D → s.heap.get? b = some o → h'.get? b = some o) → R (.ok .next) { s with heap := h', toks := tk, gens := g' }) :
    codeAny (model prog w) A (.compLoop (.ListComp (.Name nRow p1) [⟨.Name nRow px, iter, [test], 0⟩] scope pos) 0 (.ref I) (.ref D) cenv) R s := by
  have hp : (cenv.scope.kind == .class || (cenv.scope.kind == .module && cenv.locals != cenv.globals)) = false := by rw [hk]; rfl
  refine codeAny_compLoop_tests
    (fun k s' => ∃ h' tk g' m', ∃ ys : List Value, ∃ i, s' = { s with heap := h', toks := tk, gens := g' } ∧ h'.IsListIter I ax i ∧ h'.IsList ax items.toArray ∧ h'.PlainList D ys.toArray ∧ h'.Ns cenv.locals m' ∧
      AreS ys ((xs.take i).filter f) ∧ AllBare g' ∧ i ≤ items.length ∧ k = items.length + 1 - i ∧
      ∀ b o, b ≠ cenv.locals → b ≠ I → b ≠ D → s.heap.get? b = some o → h'.get? b = some o) ?_ (items.length + 1)
    ⟨s.heap, s.toks, s.gens, m, [], 0, rfl, hit, hl, hacc, hn, by simpa using AreS.nil, hb, Nat.zero_le _, rfl, fun _ _ _ _ _ e => e⟩
  rintro k s' ⟨H, tk, g', m', ys, i, rfl, hit', hl', hacc', hn', hF, hb', hi, rfl, hk'⟩
  cases hv : items[i]? with
  | none =>
    have hge : items.length ≤ i := by simpa using hv
    refine wpAny_pyNext_list_end hh hit' hl' (by simpa using hv) fun h₁ he₁ => ?_
    obtain ⟨n', hD⟩ := hacc'
    refine hR h₁ tk g' m' ys (hn'.extBut he₁ (Ne.symm hIC)) ⟨n', he₁ _ _ hDI hD⟩ ?_ hb' fun b o hbC hbI hbD e => he₁ b o hbI (hk' b o hbC hbI hbD e)
    rwa [List.take_of_length_le (by rw [← hA.length]; exact hge)] at hF
  | some v =>
    obtain ⟨x, t, hxi, rfl⟩ := hA.get hv
    have hlt : i < items.length := (List.getElem?_eq_some_iff.mp hv).1
    refine wpAny_pyNext_list_item hit' hl' (by simpa using hv) fun h₁ hit₁ hs₁ => ?_
    refine wpAny_assign_Name (wpAny_storeName_local hx (hn'.sameBut hs₁ (Ne.symm hIC)) (fun h₂ hn₂ hs₂ => ?_) hp)
    refine wpAny_tests_one (wpAny_mono (htest x t _ _ _ (List.mem_of_getElem? hxi) hn₂ (by simp) (fun b o hbC hbI hbD e => hs₂.extBut b o hbC (hs₁.extBut b o hbI (hk' b o hbC hbI hbD e))) hb') (fun ok s₃ h₃ => ?_) fun _ _ e => e)
    obtain ⟨rfl, h₃, tk₃, g₃, rfl, hb₃, hk₃⟩ := h₃
    have up₃ : ∀ b o, b ≠ cenv.locals → b ≠ I → H.get? b = some o → h₃.get? b = some o := fun b o hbC hbI e => hk₃ b o (hs₂.extBut b o hbC (hs₁.extBut b o hbI e))
    have hit₃ : h₃.IsListIter I ax (i + 1) := (hit₁.extBut hs₂.extBut hIC).at fun o e => hk₃ _ o e
    have hl₃ : h₃.IsList ax items.toArray := hl'.at fun o e => up₃ ax o haC haI e
    have hacc₃ : h₃.PlainList D ys.toArray := hacc'.at fun o e => up₃ D o hDC hDI e
    have hn₃ := hn₂.keeps hk₃
    have htake := take_succ_filter f xs i x hxi
    cases hpv : f x with
    | false =>
      simp only [Bool.false_eq_true, if_false]
      refine ⟨items.length + 1 - (i + 1), by omega, h₃, tk₃, g₃, _, ys, i + 1, rfl, hit₃, hl₃, hacc₃, hn₃, ?_, hb₃, hlt, rfl, fun b o hbC hbI hbD e => up₃ b o hbC hbI (hk' b o hbC hbI hbD e)⟩
      rw [htake, hpv]; simpa using hF
    | true =>
      simp only [if_true]
      refine wpAny_Name (wpAny_loadName_local hk hx hn₃ (by exact if_pos rfl) ?_) (by decide)
      have hys : ys.toArray.size ≤ sizeLine := by
        have e1 := hF.length
        have e2 : ((xs.take i).filter f).length ≤ (xs.take i).length := List.length_filter_le _ _
        have e3 : (xs.take i).length ≤ xs.length := by rw [List.length_take]; omega
        have e5 := hA.length
        have e4 : ys.toArray.size = ys.length := by simp
        omega
      refine wpAny_list_append_plain (hsz := hys) hacc₃ fun h₅ hl₅ hs₅ => ?_
      replace hs₅ : Heap.SameBut D h₃ h₅ := hs₅
      refine ⟨items.length + 1 - (i + 1), by omega, h₅, tk₃, g₃, _, ys ++ [.str x t], i + 1, rfl, hit₃.extBut hs₅.extBut (Ne.symm hDI), hl₃.extBut hs₅.extBut haD, ?_,
        hn₃.sameBut hs₅ (Ne.symm hDC), ?_, hb₃, hlt, rfl, fun b o hbC hbI hbD e => hs₅.extBut b o hbD (up₃ b o hbC hbI (hk' b o hbC hbI hbD e))⟩
      · simpa using hl₅
      · rw [htake, hpv]
        exact hF.append (.cons .nil)
end
section
variable {prog : Program} {w : World} {A : Around} {E : Value → Shared → Prop} {s : Shared} {env : Env} {test iter : Expr} {scope : Scope} {pos spos p1 px py : Pos} {xs : List Str} {y : Str} {Q : Flow → Shared → Prop}
theorem filtcomp (f : Str → Bool) (hh : A.handled = none)
    (hsw : swapsWith (.ListComp (.Name nRow p1) [⟨.Name nRow px, iter, [test], 0⟩] scope pos) (some (.Name y py)) spos.line env = pure true)
    (hclos : closureFor scope env = pure []) (hcell : ∀ z ∈ scope.names, z.2 ≠ .cell) (hkind : scope.kind = .function)
    (hnames : ∀ z ∈ scope.names, z.2 = .local → scope.names.lookup z.1 = some .local) (hx : scope.names.lookup nRow = some .local)
    (hy : env.kindOf y = some .local) (hp : (env.scope.kind == .class || (env.scope.kind == .module && env.locals != env.globals)) = false) (hs : ∀ x, foldedSetIterable iter env x = pure x) (hsz : xs.length ≤ sizeLine)
    (h : wpAny (model prog w) A (eval iter env) (fun xv s₁ => ∃ (ax n : Nat) (items : List Value) (m : Str → Option Value), xv = .ref ax ∧ AreS items xs ∧ s₁.heap.get? ax = some (listOf items.toArray n) ∧ s₁.heap.Ns env.locals m ∧ AllBare s₁.gens ∧
      (∀ C x t s₂ m₂ E', x ∈ xs → s₂.heap.Ns C m₂ → m₂ nRow = some (.str x t) → (∀ b o, s₁.heap.get? b = some o → s₂.heap.get? b = some o) → AllBare s₂.gens →
        wpAny (model prog w) A (isTrue test (compEnvC scope [] C env) (eval test (compEnvC scope [] C env))) (fun ok s₃ => ok = f x ∧ KeepG s₂ s₃) E' s₂) ∧
      (∀ (D : Nat) h' tk g' (ys : List Value) (k : Nat), s₁.heap.objs.size ≤ D → h'.get? D = some (listOf ys.toArray k) → AreS ys (xs.filter f) → AllBare g' →
        h'.Ns env.locals (fun z => if z = y then some (.ref D) else m z) → (∀ b o, b ≠ env.locals → s₁.heap.get? b = some o → h'.get? b = some o) → Q .next { s₁ with heap := h', toks := tk, gens := g' })) E s) :
    wpAny (model prog w) A (exec (.Assign [.Name y py] (.ListComp (.Name nRow p1) [⟨.Name nRow px, iter, [test], 0⟩] scope pos) spos) env) Q E s := by
  rw [exec_Assign_Name_used _ _ _ _ hsw]
  refine wpAny_bind (wpAny_standAt (wpAny_bind ?_))
  show wpAny _ A (do let _ ← comprehension (.ListComp (.Name nRow p1) [⟨.Name nRow px, iter, [test], 0⟩] scope pos) scope env _ (newList []) false (eval iter env) (some (assign (.Name y py) env))) _ _ s
  refine wpAny_bind (wpAny_mono (wpAny_comprehension_free (use := some (assign (.Name y py) env)) (Q := fun _ s' => Q .next s') rfl hs hclos hkind hnames
    (wpAny_mono h (fun xv s₁ h₁ => ?_) fun _ _ e => e)) (fun _ s' hq => wpAny_pure (wpAny_pure hq)) fun _ _ e => e)
  obtain ⟨ax, n, items, m, rfl, hA, hax, hn, hb, htest, hQ⟩ := h₁
  refine wpAny_pyIter_list ⟨_, hax, rfl, n, rfl⟩ ?_
  refine wpAny_newObj_type (hd := by size_fits) (wpAny_newFunctionEnv hcell (by intro y hy; simp at hy) (fun h₁ hns₁ hsb₁ => ?_) hkind)
  dsimp only at hns₁ hsb₁ ⊢
  have haxl : ax < s₁.heap.objs.size := Heap.lt_size hax
  generalize hH1 : s₁.heap.push { cls := .type "list_iterator", data := .fields #[.ref ax, .int 0 0] } = H1 at hns₁ hsb₁ ⊢
  have hD : H1.objs.size = s₁.heap.objs.size + 1 := by rw [← hH1, Heap.size_push]
  generalize hH2 : H1.push { cls := .type "list", dict := none, data := .seq ([] : List Value).toArray } = H2 at hns₁ hsb₁ ⊢
  have hC : H2.objs.size = s₁.heap.objs.size + 2 := by rw [← hH2, Heap.size_push, hD]
  have hDI : H1.objs.size ≠ s₁.heap.objs.size := by rw [hD]; exact Nat.succ_ne_self _
  have hDC : H1.objs.size ≠ H2.objs.size := by rw [hD, hC]; exact Nat.ne_of_lt (Nat.lt_succ_self _)
  have hIC : s₁.heap.objs.size ≠ H2.objs.size := by rw [hC]; exact Nat.ne_of_lt (Nat.lt_succ_of_lt (Nat.lt_succ_self _))
  have below : ∀ b, b < s₁.heap.objs.size → b ≠ H2.objs.size ∧ b ≠ s₁.heap.objs.size ∧ b ≠ H1.objs.size := fun b hb =>
    ⟨by rw [hC]; exact Nat.ne_of_lt (Nat.lt_succ_of_lt (Nat.lt_succ_of_lt hb)), Nat.ne_of_lt hb, by rw [hD]; exact Nat.ne_of_lt (Nat.lt_succ_of_lt hb)⟩
  have old : ∀ b o, s₁.heap.get? b = some o → h₁.get? b = some o := fun b o e =>
    hsb₁.extBut b o (below b (Heap.lt_size e)).1 (Heap.get?_push_of_some _ (hH2 ▸ Heap.get?_push_of_some _ (hH1 ▸ Heap.get?_push_of_some _ e)))
  have hit : h₁.IsListIter s₁.heap.objs.size ax 0 :=
    ⟨_, hsb₁.extBut _ _ hIC (Heap.get?_push_of_some _ (hH2 ▸ Heap.get?_push_of_some _ (hH1 ▸ Heap.get?_push_size _ rfl))), rfl, rfl⟩
  have hacc : h₁.PlainList H1.objs.size #[] := ⟨_, hsb₁.extBut _ _ hDC (Heap.get?_push_of_some _ (hH2 ▸ Heap.get?_push_size _ rfl))⟩
  have hl₁ : h₁.IsList ax items.toArray := ⟨_, old _ _ hax, rfl, n, rfl⟩
  have hLl : env.locals < s₁.heap.objs.size := hn.lt
  have loop : ∀ s₃ : Shared, s₃ = { s₁ with heap := h₁, toks := s₁.toks + ([] : List (Str × Value)).length } →
      codeAny (model prog w) A (.compLoop (.ListComp (.Name nRow p1) [⟨.Name nRow px, iter, [test], 0⟩] scope pos) 0 (.ref s₁.heap.objs.size) (.ref H1.objs.size) (compEnvC scope [] H2.objs.size env))
        (compPost (model prog w) A E (some (assign (.Name y py) env)) (fun _ s' => Q .next s') (.ref H1.objs.size) H2.objs.size) s₃ := by
    rintro s₃ rfl
    refine filtloop (cenv := compEnvC scope [] H2.objs.size env) f hA hh (lookup_relabel_local hx) hkind hDI hDC hIC (below ax haxl).2.1 (below ax haxl).1 (below ax haxl).2.2 hit hl₁ hacc hns₁ hb (by rw [hA.length]; exact hsz)
      (fun x t s₂ m₂ E' hx' hn' hm' hk' hb' => htest _ x t s₂ m₂ E' hx' hn' hm' (fun b o e => hk' b o (below b (Heap.lt_size e)).1 (below b (Heap.lt_size e)).2.1 (below b (Heap.lt_size e)).2.2 (old b o e)) hb') ?_
    intro h' tk g' m' ys hnC hpl hAy hb' hk'
    have up : ∀ b o, s₁.heap.get? b = some o → h'.get? b = some o := fun b o e => hk' b o (below b (Heap.lt_size e)).1 (below b (Heap.lt_size e)).2.1 (below b (Heap.lt_size e)).2.2 (old b o e)
    obtain ⟨k, hDk⟩ := hpl
    show wpAny _ A (assign (.Name y py) env (.ref H1.objs.size)) _ _ _
    refine wpAny_assign_Name (wpAny_storeName_local hy (hn.at' fun o e => up _ o e) (fun h₂ hn₂ hs₂ => ?_) hp)
    replace hs₂ : Heap.SameBut env.locals h' h₂ := hs₂
    refine ⟨m', hnC.sameBut hs₂ (below _ hLl).1.symm, fun h₃ hs₃ => ?_⟩
    replace hs₃ : Heap.SameBut H2.objs.size h₂ h₃ := hs₃
    exact hQ H1.objs.size h₃ _ g' ys k (by rw [hD]; exact Nat.le_succ _) (hs₃.extBut _ _ hDC (hs₂.extBut _ _ (below _ hLl).2.2.symm hDk)) hAy hb' (hn₂.sameBut hs₃ (below _ hLl).1)
      fun b o hbL e => hs₃.extBut b o (below b (Heap.lt_size e)).1 (hs₂.extBut b o hbL (up b o e))
  exact codeAny_compStart_list (loop _ rfl) (wpAny_pyIter_listiter hit (loop _ rfl))
end
end Mine
namespace Mine
/-- a dict's object with its entries, whatever the keys are -/
noncomputable def DictE (h : Heap) (d : Addr) (es : Array DictEntry) (ep : Nat) : Prop := ∃ o, h.get? d = some o ∧ o.ExactDict ∧ o.data = .dict es ep
theorem DictE.at {h h' : Heap} {d : Addr} {es : Array DictEntry} {ep : Nat} (x : DictE h d es ep) (k : ∀ o, h.get? d = some o → h'.get? d = some o) : DictE h' d es ep := let ⟨o, a, r⟩ := x; ⟨o, k _ a, r⟩
theorem DictE.typeIs {s : Shared} {d : Addr} {es : Array DictEntry} {ep : Nat} (x : DictE s.heap d es ep) : s.TypeIs (.ref d) "dict" := let ⟨o, a, c, _⟩ := x; ⟨o, a, c.1⟩
theorem DictE.lt {h : Heap} {d : Addr} {es : Array DictEntry} {ep : Nat} (x : DictE h d es ep) : d < h.objs.size := let ⟨_, a, _⟩ := x; Heap.lt_size a
section
variable {prog : Program} {w : World} {A : Around} {E : Value → Shared → Prop} {s : Shared} {es : Array DictEntry} {ep i : Nat} {it d : Addr}
/-- the keys of a dict: iter, next, end -/
theorem keysIter {Q : Value → Shared → Prop} (hd : (d == sysModules) = false) (hm : DictE s.heap d es ep)
    (hQ : Q (.ref s.heap.objs.size) { s with heap := s.heap.push { cls := .type "dict_keyiterator", data := .fields #[.ref d, .int 0 0, .int es.size 0, .int ep 0] } }) :
    wpAny (model prog w) A (pyIter (.ref d)) Q E s := by
  have hT := hm.typeIs
  obtain ⟨o, ho, hc, hdat⟩ := hm
  refine wpAny_pyIter_slot hT F.slot_dict_iter (wpAny_call_entry F.slot_dict_iter hT F.entry_dict_iter ?_ (F.args_dict_iter_1 _))
  unfold Builtin.«dict.__iter__»
  refine wpAny_bind ?_
  unfold Builtin.Dict.dictSlotNone
  refine wpAny_bind (wpAny_notOrdered_dict hT ?_)
  show wpAny _ _ (pure (Value.ref d)) _ _ s
  refine wpAny_pure ?_
  show wpAny _ _ (Builtin.Dict.showsAll d >>= _) _ _ s
  unfold Builtin.Dict.showsAll
  rw [if_neg (by rw [hd]; exact Bool.false_ne_true)]
  refine wpAny_bind (wpAny_pure ?_)
  refine wpAny_bind (wpAny_dictEntries ho hdat ?_)
  refine wpAny_bind (wpAny_dictEpoch ho hdat ?_)
  refine wpAny_bind (wpAny_newObj_type (wpAny_pure ⟨_, rfl, "dict_keyiterator", _, ⟨_, Heap.get?_push_size _ rfl, rfl⟩, F.slot_dict_keyiterator_next.lookup, ?_⟩))
  simpa [rawInt] using hQ
theorem keysNext {Q : Option Value → Shared → Prop} (hit : s.heap.IsKeyIter it d i es.size ep) (hm : DictE s.heap d es ep) (hi : i < es.size)
    (hQ : ∀ h', h'.IsKeyIter it d (i + 1) es.size ep → Heap.SameBut it s.heap h' → Q (some es[i].key) { s with heap := h' }) : wpAny (model prog w) A (pyNext (.ref it)) Q E s := by
  obtain ⟨o, ho, hc, hd⟩ := id hit
  obtain ⟨od, hod, hcd, hdd⟩ := id hm
  unfold pyNext
  refine wpAny_bind (wpAny_attempt (wpAny_callSpecial?_slot (name := Str.ofString "__next__") hit.typeIs F.slot_dict_keyiterator_next
    (wpAny_call_entry F.slot_dict_keyiterator_next hit.typeIs F.entry_dict_keyiterator_next ?_ (F.args_dict_keyiterator_next_1 _))))
  refine wpAny_bind (wpAny_pure ?_)
  refine wpAny_bind ?_
  refine wpAny_bind ?_
  first | refine wpAny_bind (wpAny_typeNameOfWhole_keyiter hit.typeIs (wpAny_pure ?_)) | refine wpAny_bind (wpAny_typeNameOf_keyiter hit.typeIs (wpAny_pure ?_))
  refine wpAny_bind (wpAny_fieldsOf ho hd ?_)
  have hown : Builtin.Dict_items.ownsTuple "dict_keyiterator" = false := by decide
  simp only [hown, Bool.false_eq_true, if_false]
  show wpAny _ _ (if (Value.ref d == Value.none) = true then _ else _) _ _ s
  rw [if_neg (show ¬ ((Value.ref d == Value.none) = true) from Bool.false_ne_true)]
  refine wpAny_bind (wpAny_pure ?_)
  refine wpAny_bind (wpAny_dictEntries hod hdd ?_)
  rw [if_neg (by simp)]
  refine wpAny_bind (wpAny_pure ?_)
  refine wpAny_bind (wpAny_dictEpoch hod hdd ?_)
  rw [if_neg (by simp)]
  refine wpAny_pure ?_
  simp only [show ¬ ((i : Int) < 0) from by omega, if_false, Int.toNat_natCast, Array.getElem?_eq_getElem hi]
  refine wpAny_bind ?_
  first | refine wpAny_bind (wpAny_typeNameOfWhole_keyiter hit.typeIs (wpAny_pure ?_)) | refine wpAny_bind (wpAny_typeNameOf_keyiter hit.typeIs (wpAny_pure ?_))
  refine wpAny_bind (wpAny_isOneOf_keyiter hit.typeIs ?_)
  show wpAny _ _ (setField (.ref it) 1 (rawInt ((i : Int) + 1)) >>= _) _ _ s
  refine wpAny_bind (wpAny_setField ho hd (by simp) ?_)
  have hit' : (s.heap.update it (Obj.mapFields (·.setIfInBounds 1 (rawInt ((i : Int) + 1))))).IsKeyIter it d (i + 1) es.size ep :=
    ⟨_, Heap.get?_update_self _ ho (Obj.isFreed_of_fields (Obj.data_mapFields hd _)), (Obj.cls_mapFields ..).trans hc, by rw [Obj.data_mapFields hd]; simp [rawInt]⟩
  refine wpAny_bind (wpAny_holding ?_)
  refine wpAny_bind (wpAny_isOneOf_keyiter (s := { s with heap := s.heap.update it (Obj.mapFields (·.setIfInBounds 1 (rawInt ((i : Int) + 1)))) }) hit'.typeIs ?_)
  show wpAny _ _ (pure es[i].key) _ _ _
  exact wpAny_pure (wpAny_pure ⟨_, rfl, wpAny_pure (hQ _ hit' (Heap.SameBut.update ..))⟩)
theorem keysEnd {Q : Option Value → Shared → Prop} (hh : A.handled = none) (hit : s.heap.IsKeyIter it d es.size es.size ep) (hm : DictE s.heap d es ep)
    (hQ : ∀ h', Heap.ExtBut it s.heap h' → Q none { s with heap := h' }) : wpAny (model prog w) A (pyNext (.ref it)) Q E s := by
  obtain ⟨o, ho, hc, hd⟩ := id hit
  obtain ⟨od, hod, hcd, hdd⟩ := id hm
  unfold pyNext
  refine wpAny_bind (wpAny_attempt (wpAny_callSpecial?_slot (name := Str.ofString "__next__") hit.typeIs F.slot_dict_keyiterator_next
    (wpAny_call_entry F.slot_dict_keyiterator_next hit.typeIs F.entry_dict_keyiterator_next ?_ (F.args_dict_keyiterator_next_1 _))))
  refine wpAny_bind (wpAny_pure ?_)
  refine wpAny_bind ?_
  refine wpAny_bind ?_
  first | refine wpAny_bind (wpAny_typeNameOfWhole_keyiter hit.typeIs (wpAny_pure ?_)) | refine wpAny_bind (wpAny_typeNameOf_keyiter hit.typeIs (wpAny_pure ?_))
  refine wpAny_bind (wpAny_fieldsOf ho hd ?_)
  have hown : Builtin.Dict_items.ownsTuple "dict_keyiterator" = false := by decide
  simp only [hown, Bool.false_eq_true, if_false]
  show wpAny _ _ (if (Value.ref d == Value.none) = true then _ else _) _ _ s
  rw [if_neg (show ¬ ((Value.ref d == Value.none) = true) from Bool.false_ne_true)]
  refine wpAny_bind (wpAny_pure ?_)
  refine wpAny_bind (wpAny_dictEntries hod hdd ?_)
  rw [if_neg (by simp)]
  refine wpAny_bind (wpAny_pure ?_)
  refine wpAny_bind (wpAny_dictEpoch hod hdd ?_)
  rw [if_neg (by simp)]
  refine wpAny_pure ?_
  simp only [show ¬ ((es.size : Int) < 0) from by omega, if_false, Int.toNat_natCast, Array.getElem?_eq_none (Nat.le_refl es.size)]
  refine wpAny_bind ?_
  first | refine wpAny_bind (wpAny_typeNameOfWhole_keyiter hit.typeIs (wpAny_pure ?_)) | refine wpAny_bind (wpAny_typeNameOf_keyiter hit.typeIs (wpAny_pure ?_))
  show wpAny _ _ (setField (.ref it) 0 .none >>= _) _ _ s
  refine wpAny_bind (wpAny_setField ho hd (by simp) ?_)
  show wpAny _ _ (newExc (.type "StopIteration") [] >>= _) _ _ _
  refine wpAny_bind ?_
  simp only [newExc, newTuple]
  refine wpAny_bind (wpAny_newObj_type ?_ (by size_fits))
  refine wpAny_bind (m := firstArgMember _ _) (wpAny_of_eq (a := Value.none) (by first | rfl | (simp only [firstArgMember]; rfl)) ?_)
  refine wpAny_newObj_type ?_ (by size_fits)
  simp only [raiseNew]
  refine wpAny_bind (wpAny_handled ?_)
  rw [show A.in1.handled = none from hh]
  refine wpAny_bind (wpAny_pure (wpAny_throw ?_))
  refine wpAny_bind (wpAny_isInstance (T := "StopIteration") (b := true) ⟨_, Heap.get?_push_size _ rfl, rfl⟩ isSubtype_stop ?_)
  exact wpAny_pure (hQ _ (((Heap.SameBut.update ..).extBut.push _).push _))
/-- the values of a dict -/
theorem valsIter {v : Addr} {Q : Value → Shared → Prop} (hv : s.heap.IsValuesView v d) (hm : DictE s.heap d es ep)
    (hQ : Q (.ref s.heap.objs.size) { s with heap := s.heap.push { cls := .type "dict_valueiterator", data := .fields #[.ref d, .int 0 0, .int es.size 0, .int ep 0] } }) :
    wpAny (model prog w) A (pyIter (.ref v)) Q E s := by
  obtain ⟨ov, hov, hcv, hdv⟩ := id hv
  obtain ⟨o, ho, hc, hdat⟩ := hm
  refine wpAny_pyIter_slot hv.typeIs F.slot_dict_values_iter (wpAny_call_entry F.slot_dict_values_iter hv.typeIs F.entry_dict_values_iter ?_ (F.args_dict_values_iter_1 _))
  unfold Builtin.«dict_values.__iter__»
  refine wpAny_bind (wpAny_pure ?_)
  refine wpAny_bind ?_
  unfold Builtin.Dict_items.dictOf
  refine wpAny_bind (wpAny_field hov hdv (x := .ref d) rfl (wpAny_pure ?_))
  refine wpAny_bind ?_
  unfold Builtin.Dict_items.newIterator
  refine wpAny_bind (wpAny_dictEntries ho hdat ?_)
  refine wpAny_bind (wpAny_dictEpoch ho hdat ?_)
  have hown : Builtin.Dict_items.ownsTuple "dict_valueiterator" = false := by decide
  simp only [hown, Bool.false_eq_true, if_false]
  refine wpAny_newObj_type (wpAny_pure ⟨_, rfl, "dict_valueiterator", _, ⟨_, Heap.get?_push_size _ rfl, rfl⟩, F.slot_dict_valueiterator_next.lookup, ?_⟩)
  simpa [rawInt] using hQ
theorem valsNext {Q : Option Value → Shared → Prop} (hit : s.heap.IsValIter it d i es.size ep) (hm : DictE s.heap d es ep) (hi : i < es.size)
    (hQ : ∀ h', h'.IsValIter it d (i + 1) es.size ep → Heap.SameBut it s.heap h' → Q (some es[i].val) { s with heap := h' }) : wpAny (model prog w) A (pyNext (.ref it)) Q E s := by
  obtain ⟨o, ho, hc, hd⟩ := id hit
  obtain ⟨od, hod, hcd, hdd⟩ := id hm
  unfold pyNext
  refine wpAny_bind (wpAny_attempt (wpAny_callSpecial?_slot (name := Str.ofString "__next__") hit.typeIs F.slot_dict_valueiterator_next
    (wpAny_call_entry F.slot_dict_valueiterator_next hit.typeIs F.entry_dict_valueiterator_next ?_ (F.args_dict_valueiterator_next_1 _))))
  refine wpAny_bind (wpAny_pure ?_)
  refine wpAny_bind ?_
  refine wpAny_bind ?_
  first | refine wpAny_bind (wpAny_typeNameOfWhole_valiter hit.typeIs (wpAny_pure ?_)) | refine wpAny_bind (wpAny_typeNameOf_valiter hit.typeIs (wpAny_pure ?_))
  refine wpAny_bind (wpAny_fieldsOf ho hd ?_)
  have hown : Builtin.Dict_items.ownsTuple "dict_valueiterator" = false := by decide
  simp only [hown, Bool.false_eq_true, if_false]
  show wpAny _ _ (if (Value.ref d == Value.none) = true then _ else _) _ _ s
  rw [if_neg (show ¬ ((Value.ref d == Value.none) = true) from Bool.false_ne_true)]
  refine wpAny_bind (wpAny_pure ?_)
  refine wpAny_bind (wpAny_dictEntries hod hdd ?_)
  rw [if_neg (by simp)]
  refine wpAny_bind (wpAny_pure ?_)
  refine wpAny_bind (wpAny_dictEpoch hod hdd ?_)
  rw [if_neg (by simp)]
  refine wpAny_pure ?_
  simp only [show ¬ ((i : Int) < 0) from by omega, if_false, Int.toNat_natCast, Array.getElem?_eq_getElem hi]
  refine wpAny_bind ?_
  first | refine wpAny_bind (wpAny_typeNameOfWhole_valiter hit.typeIs (wpAny_pure ?_)) | refine wpAny_bind (wpAny_typeNameOf_valiter hit.typeIs (wpAny_pure ?_))
  refine wpAny_bind (wpAny_isOneOf_valiter hit.typeIs ?_)
  show wpAny _ _ (setField (.ref it) 1 (rawInt ((i : Int) + 1)) >>= _) _ _ s
  refine wpAny_bind (wpAny_setField ho hd (by simp) ?_)
  have hit' : (s.heap.update it (Obj.mapFields (·.setIfInBounds 1 (rawInt ((i : Int) + 1))))).IsValIter it d (i + 1) es.size ep :=
    ⟨_, Heap.get?_update_self _ ho (Obj.isFreed_of_fields (Obj.data_mapFields hd _)), (Obj.cls_mapFields ..).trans hc, by rw [Obj.data_mapFields hd]; simp [rawInt]⟩
  refine wpAny_bind (wpAny_holding ?_)
  refine wpAny_bind (wpAny_isOneOf_valiter (s := { s with heap := s.heap.update it (Obj.mapFields (·.setIfInBounds 1 (rawInt ((i : Int) + 1)))) }) hit'.typeIs ?_)
  refine wpAny_bind (wpAny_isOneOf_valiter (s := { s with heap := s.heap.update it (Obj.mapFields (·.setIfInBounds 1 (rawInt ((i : Int) + 1)))) }) hit'.typeIs ?_)
  show wpAny _ _ (pure es[i].val) _ _ _
  exact wpAny_pure (wpAny_pure ⟨_, rfl, wpAny_pure (hQ _ hit' (Heap.SameBut.update ..))⟩)
theorem valsEnd {Q : Option Value → Shared → Prop} (hh : A.handled = none) (hit : s.heap.IsValIter it d es.size es.size ep) (hm : DictE s.heap d es ep)
    (hQ : ∀ h', Heap.ExtBut it s.heap h' → Q none { s with heap := h' }) : wpAny (model prog w) A (pyNext (.ref it)) Q E s := by
  obtain ⟨o, ho, hc, hd⟩ := id hit
  obtain ⟨od, hod, hcd, hdd⟩ := id hm
  unfold pyNext
  refine wpAny_bind (wpAny_attempt (wpAny_callSpecial?_slot (name := Str.ofString "__next__") hit.typeIs F.slot_dict_valueiterator_next
    (wpAny_call_entry F.slot_dict_valueiterator_next hit.typeIs F.entry_dict_valueiterator_next ?_ (F.args_dict_valueiterator_next_1 _))))
  refine wpAny_bind (wpAny_pure ?_)
  refine wpAny_bind ?_
  refine wpAny_bind ?_
  first | refine wpAny_bind (wpAny_typeNameOfWhole_valiter hit.typeIs (wpAny_pure ?_)) | refine wpAny_bind (wpAny_typeNameOf_valiter hit.typeIs (wpAny_pure ?_))
  refine wpAny_bind (wpAny_fieldsOf ho hd ?_)
  have hown : Builtin.Dict_items.ownsTuple "dict_valueiterator" = false := by decide
  simp only [hown, Bool.false_eq_true, if_false]
  show wpAny _ _ (if (Value.ref d == Value.none) = true then _ else _) _ _ s
  rw [if_neg (show ¬ ((Value.ref d == Value.none) = true) from Bool.false_ne_true)]
  refine wpAny_bind (wpAny_pure ?_)
  refine wpAny_bind (wpAny_dictEntries hod hdd ?_)
  rw [if_neg (by simp)]
  refine wpAny_bind (wpAny_pure ?_)
  refine wpAny_bind (wpAny_dictEpoch hod hdd ?_)
  rw [if_neg (by simp)]
  refine wpAny_pure ?_
  simp only [show ¬ ((es.size : Int) < 0) from by omega, if_false, Int.toNat_natCast, Array.getElem?_eq_none (Nat.le_refl es.size)]
  refine wpAny_bind ?_
  first | refine wpAny_bind (wpAny_typeNameOfWhole_valiter hit.typeIs (wpAny_pure ?_)) | refine wpAny_bind (wpAny_typeNameOf_valiter hit.typeIs (wpAny_pure ?_))
  show wpAny _ _ (setField (.ref it) 0 .none >>= _) _ _ s
  refine wpAny_bind (wpAny_setField ho hd (by simp) ?_)
  show wpAny _ _ (newExc (.type "StopIteration") [] >>= _) _ _ _
  refine wpAny_bind ?_
  simp only [newExc, newTuple]
  refine wpAny_bind (wpAny_newObj_type ?_ (by size_fits))
  refine wpAny_bind (m := firstArgMember _ _) (wpAny_of_eq (a := Value.none) (by first | rfl | (simp only [firstArgMember]; rfl)) ?_)
  refine wpAny_newObj_type ?_ (by size_fits)
  simp only [raiseNew]
  refine wpAny_bind (wpAny_handled ?_)
  rw [show A.in1.handled = none from hh]
  refine wpAny_bind (wpAny_pure (wpAny_throw ?_))
  refine wpAny_bind (wpAny_isInstance (T := "StopIteration") (b := true) ⟨_, Heap.get?_push_size _ rfl, rfl⟩ isSubtype_stop ?_)
  exact wpAny_pure (hQ _ (((Heap.SameBut.update ..).extBut.push _).push _))
/-- the items of a dict -/
theorem itemsIter {v : Addr} {Q : Value → Shared → Prop} (hv : s.heap.IsItemsView v d) (hm : DictE s.heap d es ep)
    (hQ : Q (.ref s.heap.objs.size) { s with heap := s.heap.push { cls := .type "dict_itemiterator", data := .fields #[.none, .bool false, .ref d, .int 0 0, .int es.size 0, .int ep 0, .none, .none] } }) :
    wpAny (model prog w) A (pyIter (.ref v)) Q E s := by
  obtain ⟨ov, hov, hcv, hdv⟩ := id hv
  obtain ⟨o, ho, hc, hdat⟩ := hm
  refine wpAny_pyIter_slot hv.typeIs F.slot_dict_items_iter (wpAny_call_entry F.slot_dict_items_iter hv.typeIs F.entry_dict_items_iter ?_ (F.args_dict_items_iter_1 _))
  unfold Builtin.«dict_items.__iter__»
  refine wpAny_bind (wpAny_pure ?_)
  refine wpAny_bind ?_
  unfold Builtin.Dict_items.dictOf
  refine wpAny_bind (wpAny_field hov hdv (x := .ref d) rfl (wpAny_pure ?_))
  refine wpAny_bind ?_
  unfold Builtin.Dict_items.newIterator
  refine wpAny_bind (wpAny_dictEntries ho hdat ?_)
  refine wpAny_bind (wpAny_dictEpoch ho hdat ?_)
  have hown : Builtin.Dict_items.ownsTuple "dict_itemiterator" = true := by decide
  simp only [hown, if_true]
  refine wpAny_newObj_type (wpAny_pure ⟨_, rfl, "dict_itemiterator", _, ⟨_, Heap.get?_push_size _ rfl, rfl⟩, F.slot_dict_itemiterator_next.lookup, ?_⟩)
    (by simp only [sizeOk, Builtin.Dict_items.ownedTupleFields, List.size_toArray, List.length_append, List.length_cons, List.length_nil, sizeLine_eq]; omega)
  simpa [rawInt, Builtin.Dict_items.ownedTupleFields] using hQ
theorem itemsNext {ok ov : Value} {Q : Option Value → Shared → Prop} (hit : IsItemIter s.heap it d i es.size ep ok ov) (hm : DictE s.heap d es ep) (hi : i < es.size)
    (hQ : ∀ h', IsItemIterOut h' it d (i + 1) es.size ep es[i].key es[i].val s.heap.objs.size →
      h'.get? s.heap.objs.size = some { cls := .type "tuple", data := .seq #[es[i].key, es[i].val] } → h'.objs.size = s.heap.objs.size + 1 →
      (∀ b o, b ≠ it → s.heap.get? b = some o → h'.get? b = some o) → Q (some (.ref s.heap.objs.size)) { s with heap := h' }) :
    wpAny (model prog w) A (pyNext (.ref it)) Q E s := by
  obtain ⟨hp, g, dr, tk, os⟩ := s
  obtain ⟨od, hod, hcd, hdd⟩ := id hm
  have hT : Shared.TypeIs ⟨hp, g, dr, tk, os⟩ (.ref it) "dict_itemiterator" := ⟨_, hit, rfl⟩
  unfold pyNext
  refine wpAny_bind (wpAny_attempt (wpAny_callSpecial?_slot (name := Str.ofString "__next__") hT F.slot_dict_itemiterator_next
    (wpAny_call_entry F.slot_dict_itemiterator_next hT F.entry_dict_itemiterator_next ?_ (F.args_dict_itemiterator_next_1 _))))
  refine wpAny_bind (wpAny_pure ?_)
  refine wpAny_bind ?_
  refine wpAny_bind ?_
  first | refine wpAny_bind (wpAny_typeNameOfWhole_itemiter hT (wpAny_pure ?_)) | refine wpAny_bind (wpAny_typeNameOf_itemiter hT (wpAny_pure ?_))
  refine wpAny_bind (wpAny_fieldsOf hit rfl ?_)
  have hown : Builtin.Dict_items.ownsTuple "dict_itemiterator" = true := by decide
  simp only [hown, if_true]
  show wpAny _ _ (if (Value.ref d == Value.none) = true then _ else _) _ _ _
  rw [if_neg (show ¬ ((Value.ref d == Value.none) = true) from Bool.false_ne_true)]
  refine wpAny_bind (wpAny_pure ?_)
  refine wpAny_bind (wpAny_dictEntries hod hdd ?_)
  rw [if_neg (by simp)]
  refine wpAny_bind (wpAny_pure ?_)
  refine wpAny_bind (wpAny_dictEpoch hod hdd ?_)
  rw [if_neg (by simp)]
  refine wpAny_pure ?_
  simp only [show ¬ ((i : Int) < 0) from by omega, if_false, Int.toNat_natCast, Array.getElem?_eq_getElem hi]
  refine wpAny_bind ?_
  first | refine wpAny_bind (wpAny_typeNameOfWhole_itemiter hT (wpAny_pure ?_)) | refine wpAny_bind (wpAny_typeNameOf_itemiter hT (wpAny_pure ?_))
  refine wpAny_bind (wpAny_isOneOf_itemiter hT ?_)
  show wpAny _ _ (setField (.ref it) 3 (rawInt ((i : Int) + 1)) >>= _) _ _ ⟨hp, g, dr, tk, os⟩
  refine wpAny_bind (wpAny_setField_rec hit (by simp) fun h₁ he₁ hs₁ => ?_)
  replace hs₁ : Heap.SameBut it hp h₁ := hs₁
  replace he₁ : IsItemIter h₁ it d (i + 1) es.size ep ok ov := by
    have e : ((i + 1 : Nat) : Int) = (i : Int) + 1 := by omega
    unfold IsItemIter; rw [e]; simpa [rawInt] using he₁
  have hT₁ : Shared.TypeIs ⟨h₁, g, dr, tk, os⟩ (.ref it) "dict_itemiterator" := ⟨_, he₁, rfl⟩
  refine wpAny_bind (wpAny_holding ?_)
  refine wpAny_bind (wpAny_isOneOf_itemiter hT₁ ?_)
  refine wpAny_bind (wpAny_isOneOf_itemiter hT₁ ?_)
  show wpAny _ _ (Builtin.Dict_items.pairFromOwner (.ref it) 6 es[i].key es[i].val) _ _ ⟨h₁, g, dr, tk, os⟩
  unfold Builtin.Dict_items.pairFromOwner
  refine wpAny_bind (wpAny_newTuple ?_)
  have hz₁ : h₁.objs.size = hp.objs.size := hs₁.1
  have he₂ : IsItemIter (h₁.push { cls := .type "tuple", data := .seq #[es[i].key, es[i].val] }) it d (i + 1) es.size ep ok ov := Heap.get?_push_of_some _ he₁
  have ht₂ : (h₁.push { cls := .type "tuple", data := .seq #[es[i].key, es[i].val] }).get? hp.objs.size = some { cls := .type "tuple", data := .seq #[es[i].key, es[i].val] } := by rw [← hz₁]; exact Heap.get?_push_size _ rfl
  have hz₂ : (h₁.push { cls := .type "tuple", data := .seq #[es[i].key, es[i].val] }).objs.size = hp.objs.size + 1 := by rw [Heap.size_push, hz₁]
  have hk₂ : ∀ b o, b ≠ it → hp.get? b = some o → (h₁.push { cls := .type "tuple", data := .seq #[es[i].key, es[i].val] }).get? b = some o := fun b o hb e => Heap.get?_push_of_some _ (hs₁.extBut b o hb e)
  generalize h₁.push { cls := .type "tuple", data := .seq #[es[i].key, es[i].val] } = h₂ at he₂ ht₂ hz₂ hk₂
  have hil : it < hp.objs.size := Heap.lt_size hit
  show wpAny _ _ (Builtin.Dict_items.ownedTupleIsFree (.ref it) >>= _) _ _ ⟨h₂, g, dr, tk, os⟩
  rw [hz₁]
  clear he₁ hs₁ hT₁ hz₁
  refine wpAny_bind ?_
  unfold Builtin.Dict_items.ownedTupleIsFree
  refine wpAny_bind (wpAny_field he₂ rfl (x := .none) rfl (wpAny_pure ?_))
  simp only [if_true]
  refine wpAny_bind (wpAny_field he₂ rfl (x := ok) rfl ?_)
  refine wpAny_bind (wpAny_field he₂ rfl (x := ov) rfl ?_)
  refine wpAny_bind (wpAny_setField_rec he₂ (by simp) fun h₃ he₃ hs₃ => ?_)
  replace hs₃ : Heap.SameBut it h₂ h₃ := hs₃
  replace he₃ : IsItemIter h₃ it d (i + 1) es.size ep es[i].key ov := he₃
  refine wpAny_bind (wpAny_setField_rec he₃ (by simp) fun h₄ he₄ hs₄ => ?_)
  replace hs₄ : Heap.SameBut it h₃ h₄ := hs₄
  replace he₄ : IsItemIter h₄ it d (i + 1) es.size ep es[i].key es[i].val := he₄
  refine wpAny_bind (wpAny_setField_rec he₄ (by simp) fun h₅ he₅ hs₅ => ?_)
  replace hs₅ : Heap.SameBut it h₄ h₅ := hs₅
  replace he₅ : IsItemIterOut h₅ it d (i + 1) es.size ep es[i].key es[i].val hp.objs.size := he₅
  refine wpAny_bind (wpAny_setField_rec he₅ (by simp) fun h₆ he₆ hs₆ => ?_)
  replace hs₆ : Heap.SameBut it h₅ h₆ := hs₆
  replace he₆ : IsItemIterOut h₆ it d (i + 1) es.size ep es[i].key es[i].val hp.objs.size := he₆
  have up : ∀ b o, b ≠ it → h₂.get? b = some o → h₆.get? b = some o := fun b o hb e => hs₆.extBut b o hb (hs₅.extBut b o hb (hs₄.extBut b o hb (hs₃.extBut b o hb e)))
  refine wpAny_bind (wpAny_letGo (wpAny_pure (wpAny_pure ⟨_, rfl, wpAny_pure (hQ h₆ he₆ (up _ _ (Nat.ne_of_gt hil) ht₂) ?_ fun b o hb e => up b o hb (hk₂ b o hb e))⟩)))
  show h₆.objs.size = hp.objs.size + 1
  rw [hs₆.1, hs₅.1, hs₄.1, hs₃.1, hz₂]
theorem itemsEnd {ok ov : Value} {Q : Option Value → Shared → Prop} (hh : A.handled = none) (hit : IsItemIter s.heap it d es.size es.size ep ok ov) (hm : DictE s.heap d es ep)
    (hQ : ∀ h', Heap.ExtBut it s.heap h' → Q none { s with heap := h' }) : wpAny (model prog w) A (pyNext (.ref it)) Q E s := by
  have hT : s.TypeIs (.ref it) "dict_itemiterator" := ⟨_, hit, rfl⟩
  obtain ⟨od, hod, hcd, hdd⟩ := id hm
  unfold pyNext
  refine wpAny_bind (wpAny_attempt (wpAny_callSpecial?_slot (name := Str.ofString "__next__") hT F.slot_dict_itemiterator_next
    (wpAny_call_entry F.slot_dict_itemiterator_next hT F.entry_dict_itemiterator_next ?_ (F.args_dict_itemiterator_next_1 _))))
  refine wpAny_bind (wpAny_pure ?_)
  refine wpAny_bind ?_
  refine wpAny_bind ?_
  first | refine wpAny_bind (wpAny_typeNameOfWhole_itemiter hT (wpAny_pure ?_)) | refine wpAny_bind (wpAny_typeNameOf_itemiter hT (wpAny_pure ?_))
  refine wpAny_bind (wpAny_fieldsOf hit rfl ?_)
  have hown : Builtin.Dict_items.ownsTuple "dict_itemiterator" = true := by decide
  simp only [hown, if_true]
  show wpAny _ _ (if (Value.ref d == Value.none) = true then _ else _) _ _ s
  rw [if_neg (show ¬ ((Value.ref d == Value.none) = true) from Bool.false_ne_true)]
  refine wpAny_bind (wpAny_pure ?_)
  refine wpAny_bind (wpAny_dictEntries hod hdd ?_)
  rw [if_neg (by simp)]
  refine wpAny_bind (wpAny_pure ?_)
  refine wpAny_bind (wpAny_dictEpoch hod hdd ?_)
  rw [if_neg (by simp)]
  refine wpAny_pure ?_
  simp only [show ¬ ((es.size : Int) < 0) from by omega, if_false, Int.toNat_natCast, Array.getElem?_eq_none (Nat.le_refl es.size)]
  refine wpAny_bind ?_
  first | refine wpAny_bind (wpAny_typeNameOfWhole_itemiter hT (wpAny_pure ?_)) | refine wpAny_bind (wpAny_typeNameOf_itemiter hT (wpAny_pure ?_))
  show wpAny _ _ (setField (.ref it) 2 .none >>= _) _ _ s
  refine wpAny_bind (wpAny_setField hit rfl (by simp) ?_)
  show wpAny _ _ (newExc (.type "StopIteration") [] >>= _) _ _ _
  refine wpAny_bind ?_
  simp only [newExc, newTuple]
  refine wpAny_bind (wpAny_newObj_type ?_ (by size_fits))
  refine wpAny_bind (m := firstArgMember _ _) (wpAny_of_eq (a := Value.none) (by first | rfl | (simp only [firstArgMember]; rfl)) ?_)
  refine wpAny_newObj_type ?_ (by size_fits)
  simp only [raiseNew]
  refine wpAny_bind (wpAny_handled ?_)
  rw [show A.in1.handled = none from hh]
  refine wpAny_bind (wpAny_pure (wpAny_throw ?_))
  refine wpAny_bind (wpAny_isInstance (T := "StopIteration") (b := true) ⟨_, Heap.get?_push_size _ rfl, rfl⟩ isSubtype_stop ?_)
  exact wpAny_pure (hQ _ (((Heap.SameBut.update ..).extBut.push _).push _))
end
end Mine
namespace Mine
noncomputable def mixIs : Str ⊕ Int → Value → Bool
  | .inl x, v => Value.isStrOf x v
  | .inr i, v => Value.isInt i v
section
variable {prog : Program} {w : World} {A : Around} {E : Value → Shared → Prop} {s : Shared} {Q : Bool → Shared → Prop}
theorem eqB_int_str {a : Int} {t : Tok} {b : Str} {u : Tok} (h : Q false s) : wpAny (model prog w) A (eqBool (.int a t) (.str b u)) Q E s := by
  unfold eqBool
  refine wpAny_holding ?_
  rw [if_neg (by simp)]
  refine wpAny_bind (?_ : wpAny _ _ (compareOp .Eq (.int a t) (.str b u)) _ _ _)
  exact PySem.EqMixed.eq_int_str (wpAny_truthy_bool h)
theorem eqB_str_int {a : Int} {t : Tok} {b : Str} {u : Tok} (h : Q false s) : wpAny (model prog w) A (eqBool (.str b u) (.int a t)) Q E s := by
  unfold eqBool
  refine wpAny_holding ?_
  rw [if_neg (by simp)]
  refine wpAny_bind (?_ : wpAny _ _ (compareOp .Eq (.str b u) (.int a t)) _ _ _)
  exact PySem.EqMixed.eq_str_int (wpAny_truthy_bool h)
end
noncomputable def mixKind (prog : Program) (w : World) : KeyKind prog w (Str ⊕ Int) where
  is := mixIs
  hash := fun k => match k with | .inl x => hashStr w x | .inr i => hashInt i
  inj := fun v a b ha hb => by
    cases a <;> cases b
    · rw [Value.isStrOf_inj v _ _ ha hb]
    · obtain ⟨t, rfl⟩ := Value.isStrOf_shape ha; cases hb
    · obtain ⟨t, rfl⟩ := Value.isInt_shape ha; cases hb
    · rw [Value.isInt_inj v _ _ ha hb]
  byValue := fun k v h => by
    cases k with
    | inl x => obtain ⟨t, rfl⟩ := Value.isStrOf_shape h; rfl
    | inr i => obtain ⟨t, rfl⟩ := Value.isInt_shape h; rfl
  pyHash := fun {A E s k v Q} hv h => by
    cases k with
    | inl x => obtain ⟨t, rfl⟩ := Value.isStrOf_shape hv; exact wpAny_pyHash_str h
    | inr i => obtain ⟨t, rfl⟩ := Value.isInt_shape hv; exact wpAny_pyHash_int h
  eqBool := fun {A E s a b u v Q} hu hv h => by
    cases a with
    | inl x =>
      obtain ⟨t, rfl⟩ := Value.isStrOf_shape hu
      cases b with
      | inl y => obtain ⟨t', rfl⟩ := Value.isStrOf_shape hv; exact wpAny_eqBool_str (by simpa using h)
      | inr j => obtain ⟨t', rfl⟩ := Value.isInt_shape hv; exact eqB_str_int (by simpa using h)
    | inr i =>
      obtain ⟨t, rfl⟩ := Value.isInt_shape hu
      cases b with
      | inl y => obtain ⟨t', rfl⟩ := Value.isStrOf_shape hv; exact eqB_int_str (by simpa using h)
      | inr j => obtain ⟨t', rfl⟩ := Value.isInt_shape hv; rw [show decide ((Sum.inr i : Str ⊕ Int) = .inr j) = (i == j) from by by_cases e : i = j <;> simp [e]] at h; exact wpAny_eqBool_int h
  «strs» := fun k x t v h => by
    cases k with
    | inl y =>
      obtain ⟨u, hu⟩ := Value.isStrOf_shape (x := y) (v := .str x t) h
      injection hu with hx
      subst hx
      cases v <;> rfl
    | inr i => obtain ⟨u, hu⟩ := Value.isInt_shape (k := i) (v := .str x t) h; cases hu
end Mine
namespace Mine
section
variable {prog : Program} {w : World} {A : Around} {s : Shared} {es : Array DictEntry} {ep : Nat} {it d : Addr} {env : Env} {xk xv : Str} {pk pv pt : Pos} {x1 : Nat} {body : List Stmt} {R : Result → Shared → Prop} {m : Str → Option Value}
theorem itemsLoop (J : Nat → Heap → (Str → Option Value) → Prop)
    (hh : A.handled = none) (hxk : env.kindOf xk = some .local) (hxv : env.kindOf xv = some .local) (hk : env.scope.kind = .function)
    (hiL : it ≠ env.locals) (hdL : d ≠ env.locals) (hdi : d ≠ it) (hkv : xk ≠ xv)
    (hfr : ∀ i h h' m, J i h m → (∀ b o, b ≠ it → b ≠ env.locals → h.get? b = some o → h'.get? b = some o) → J i h' m)
    (hnm : ∀ i h m u v, J i h m → J i h (fun y => if y = xv then u else if y = xk then v else m y))
    (step : ∀ i (hi : i < es.size) m₁ s₁ E', J i s₁.heap m₁ → s₁.heap.Ns env.locals m₁ → m₁ xv = some es[i].val → m₁ xk = some es[i].key →
      wpAny (model prog w) A (execs body env) (fun f s₂ => f = .next ∧ ∃ h₂ tk m₂, s₂ = { s₁ with heap := h₂, toks := tk } ∧ h₂.Ns env.locals m₂ ∧ J (i + 1) h₂ m₂ ∧ (∀ b, b = it ∨ b = d → ∀ o, s₁.heap.get? b = some o → h₂.get? b = some o)) E' s₁)
    (hit : IsItemIter s.heap it d 0 es.size ep .none .none) (hm : DictE s.heap d es ep) (hn : s.heap.Ns env.locals m) (h0 : J 0 s.heap m)
    (done : ∀ h' tk m', h'.Ns env.locals m' → J es.size h' m' → R (.ok .next) { s with heap := h', toks := tk }) :
    codeAny (model prog w) A (.forLoop (.Tuple [.Name xk pk, .Name xv pv] x1 pt) (.ref it) body [] env) R s := by
  have hp : (env.scope.kind == .class || (env.scope.kind == .module && env.locals != env.globals)) = false := by rw [hk]; rfl
  refine codeAny_forLoop_any
    (fun n s' => ∃ h' tk m' i ok ov, s' = { s with heap := h', toks := tk } ∧ IsItemIter h' it d i es.size ep ok ov ∧ DictE h' d es ep ∧ h'.Ns env.locals m' ∧ J i h' m' ∧ i ≤ es.size ∧ n = es.size + 1 - i)
    ?_ (es.size + 1) ⟨s.heap, s.toks, m, 0, .none, .none, rfl, hit, hm, hn, h0, Nat.zero_le _, rfl⟩
  rintro n s' ⟨H, tk, m', i, ok, ov, rfl, hit', hm', hn', hJ, hi, rfl⟩
  by_cases hlt : i < es.size
  · have hiH : it < H.objs.size := Heap.lt_size hit'
    have hLH : env.locals < H.objs.size := hn'.lt
    have hdH : d < H.objs.size := hm'.lt
    refine itemsNext hit' hm' hlt fun h₁ heo ht₁ hz₁ hk₁ => ?_
    refine wpAny_letOwnedTupleGo_items heo fun h₂ he₂ hs₂ => ?_
    replace hs₂ : Heap.SameBut it h₁ h₂ := hs₂
    have ht₂ : h₂.IsTuple H.objs.size #[es[i].key, es[i].val] := ⟨_, (hs₂.2 _ (Nat.ne_of_gt hiH)).trans ht₁, rfl, _, rfl⟩
    have hz₂ : h₂.objs.size = H.objs.size + 1 := hs₂.1.trans hz₁
    refine wpAny_assign_Tuple hh ht₂ rfl rfl fun h₃ hx₃ => ?_
    replace hx₃ : Heap.ExtBut h₂.objs.size h₂ h₃ := hx₃
    have old₃ : ∀ b o, b < H.objs.size → h₂.get? b = some o → h₃.get? b = some o := fun b o hb x => hx₃ b o (by rw [hz₂]; exact Nat.ne_of_lt (Nat.lt_succ_of_lt hb)) x
    have hn₃ := ((hn'.at fun o x => hk₁ _ o (Ne.symm hiL) x).sameBut hs₂ (Ne.symm hiL)).at fun o x => old₃ _ o hLH x
    show wpAny _ _ (do holding [es[i].val] (assign (.Name xk pk) env es[i].key); do holding [] (assign (.Name xv pv) env es[i].val); pure ()) _ _ _
    refine wpAny_bind (wpAny_holding (wpAny_assign_Name (wpAny_storeName_local hxk hn₃ (fun h₄ hn₄ hs₄ => ?_) hp)))
    replace hs₄ : Heap.SameBut env.locals h₃ h₄ := hs₄
    refine wpAny_bind (wpAny_holding (wpAny_assign_Name (wpAny_storeName_local hxv hn₄ (fun h₅ hn₅ hs₅ => wpAny_pure ?_) hp)))
    replace hs₅ : Heap.SameBut env.locals h₄ h₅ := hs₅
    have up₅ : ∀ b o, b ≠ env.locals → b < H.objs.size → h₂.get? b = some o → h₅.get? b = some o := fun b o hbL hb x => hs₅.extBut b o hbL (hs₄.extBut b o hbL (old₃ b o hb x))
    have hJ₅ := hnm i _ _ (some es[i].val) (some es[i].key) (hfr i H h₅ m' hJ fun b o hbi hbL e => up₅ b o hbL (Heap.lt_size e) (hs₂.extBut b o hbi (hk₁ b o hbi e)))
    refine wpAny_mono (step i hlt _ _ _ hJ₅ hn₅ (by exact if_pos rfl) (by show (if xk = xv then _ else if xk = xk then _ else _) = _; rw [if_neg hkv, if_pos rfl])) (fun f s₃ h₆ => ?_) fun _ _ x => x
    obtain ⟨rfl, h₆, tk₆, m₆, rfl, hn₆, hJ₆, hk₆⟩ := h₆
    refine ⟨es.size + 1 - (i + 1), by omega, h₆, tk₆, m₆, i + 1, _, _, rfl, hk₆ it (.inl rfl) _ (up₅ it _ hiL hiH he₂), (hm'.at fun o e => hk₆ d (.inr rfl) _ (up₅ d o hdL hdH (hs₂.extBut d o hdi (hk₁ d o hdi e)))), hn₆, hJ₆, hlt, rfl⟩
  · have hsz : i = es.size := by omega
    subst hsz
    refine itemsEnd hh hit' hm' fun h₁ he₁ => wpAny_execs_nil ?_
    exact done h₁ tk m' (hn'.extBut he₁ (Ne.symm hiL)) (hfr _ H h₁ m' hJ fun b o hbi _ e => he₁ b o hbi e)
/-- `d.items()` over a name, and the loop over it -/
theorem forItems {o : Expr} {apos cpos pos : Pos} {Q : Flow → Shared → Prop} {E : Value → Shared → Prop} (J : Addr → Nat → Heap → (Str → Option Value) → Prop)
    (hh : A.handled = none) (hxk : env.kindOf xk = some .local) (hxv : env.kindOf xv = some .local) (hk : env.scope.kind = .function) (hdL : d ≠ env.locals) (hkv : xk ≠ xv)
    (hdS : (d == sysModules) = false) (hm : DictE s.heap d es ep) (hn : s.heap.Ns env.locals m)
    (hbase : attributeBase o "items" env (eval o env) = eval o env) (hline : (apos.endLine == cpos.line) = true) (ho : ∀ Q', Q' (.ref d) s → wpAny (model prog w) A (eval o env) Q' E s)
    (hs : ∀ x, foldedSetIterable (.Call (.Attribute o "items" apos) [] [] cpos) env x = pure x)
    (hfr : ∀ it, s.heap.objs.size ≤ it → ∀ i h h' m, J it i h m → (∀ b o, b ≠ it → b ≠ env.locals → h.get? b = some o → h'.get? b = some o) → J it i h' m)
    (hnm : ∀ it i h m u v, J it i h m → J it i h (fun y => if y = xv then u else if y = xk then v else m y))
    (step : ∀ it, s.heap.objs.size ≤ it → ∀ i (hi : i < es.size) m₁ s₁ E', J it i s₁.heap m₁ → s₁.heap.Ns env.locals m₁ → m₁ xv = some es[i].val → m₁ xk = some es[i].key →
      wpAny (model prog w) A (execs body env) (fun f s₂ => f = .next ∧ ∃ h₂ tk m₂, s₂ = { s₁ with heap := h₂, toks := tk } ∧ h₂.Ns env.locals m₂ ∧ J it (i + 1) h₂ m₂ ∧ (∀ b, b = it ∨ b = d → ∀ o, s₁.heap.get? b = some o → h₂.get? b = some o)) E' s₁)
    (h0 : ∀ it h', s.heap.objs.size ≤ it → (∀ b o, s.heap.get? b = some o → h'.get? b = some o) → h'.Ns env.locals m → J it 0 h' m)
    (done : ∀ it h' tk m', s.heap.objs.size ≤ it → h'.Ns env.locals m' → J it es.size h' m' → Q .next { s with heap := h', toks := tk }) :
    wpAny (model prog w) A (exec (.For (.Tuple [.Name xk pk, .Name xv pv] x1 pt) (.Call (.Attribute o "items" apos) [] [] cpos) body [] pos) env) Q E s := by
  refine wpAny_For ?_ hs
  refine wpAny_Call_method (T := "dict") (id := "dict.items") hbase rfl hline F.plainAttrs_dict F.slot_dict_items F.type_dict_items (ho _ ⟨hm.typeIs, ?_, ?_⟩)
  · intro a e
    cases e
    obtain ⟨o', ho', hc, _⟩ := hm
    exact ⟨o', ho', hc.2.1⟩
  show wpAny (model prog w) A (callWith cpos (.builtin "dict.items") [.ref d] [] []) _ E s
  have meets : MeetsIn prog w (Builtin.«dict.items» ⟨[.ref d], []⟩) (fun _ R s => (∃ es ep, DictE s.heap d es ep) ∧
      R (.ok (.ret (.ref s.heap.objs.size))) { s with heap := s.heap.push { cls := .type "dict_items", data := .fields #[.ref d] } }) :=
    .of_wp fun A R s ⟨⟨es, ep, hm⟩, h⟩ => by
      unfold Builtin.«dict.items»
      refine wpAny_bind ?_
      unfold Builtin.Dict.noArgs
      refine wpAny_bind (wpAny_notOrdered_dict hm.typeIs ?_)
      show wpAny _ _ (pure d) _ _ s
      refine wpAny_pure ?_
      show wpAny _ _ (Builtin.Dict.showsAll d >>= _) _ _ s
      unfold Builtin.Dict.showsAll
      rw [if_neg (by rw [hdS]; exact Bool.false_ne_true)]
      refine wpAny_bind (wpAny_pure ?_)
      exact wpAny_bind (wpAny_newObj_type (wpAny_pure ⟨_, rfl, h⟩))
  refine method_meetsIn F.slot_dict_items F.entry_dict_items rfl (PySem.evalArgs_none ⟨rfl, hm.typeIs, F.args_dict_items_1 _, _, meets, ⟨es, ep, hm⟩, ?_⟩)
  have hsz : (s.heap.push { cls := .type "dict_items", data := .fields #[.ref d] }).objs.size = s.heap.objs.size + 1 := Heap.size_push ..
  have up1 : ∀ b o, s.heap.get? b = some o → (s.heap.push { cls := .type "dict_items", data := .fields #[.ref d] }).get? b = some o := fun b o e => Heap.get?_push_of_some _ e
  refine itemsIter (d := d) (es := es) (ep := ep) ⟨_, Heap.get?_push_size _ rfl, rfl, rfl⟩ (hm.at fun o e => up1 _ o e) ?_
  have up2 : ∀ b o, s.heap.get? b = some o → ((s.heap.push { cls := .type "dict_items", data := .fields #[.ref d] }).push { cls := .type "dict_itemiterator", data := .fields #[.none, .bool false, .ref d, .int 0 0, .int es.size 0, .int ep 0, .none, .none] }).get? b = some o := fun b o e => Heap.get?_push_of_some _ (up1 b o e)
  have hle : s.heap.objs.size ≤ (s.heap.push { cls := .type "dict_items", data := .fields #[.ref d] }).objs.size := by rw [hsz]; exact Nat.le_succ _
  have hn2 := hn.at fun o e => up2 _ o e
  refine itemsLoop (J (s.heap.push { cls := .type "dict_items", data := .fields #[.ref d] }).objs.size) hh hxk hxv hk ?_ hdL ?_ hkv (hfr _ hle) (hnm _) (step _ hle) (Heap.get?_push_size _ rfl) (hm.at fun o e => up2 _ o e) hn2 (h0 _ _ hle up2 hn2) fun h' tk m' hn' hJ => ?_
  · exact Nat.ne_of_gt (Nat.lt_of_lt_of_le hn.lt hle)
  · exact Nat.ne_of_lt (Nat.lt_of_lt_of_le hm.lt hle)
  · exact done _ h' tk m' hle hn' hJ
end
end Mine
namespace Mine
section
variable {prog : Program} {w : World} {A : Around} {E : Value → Shared → Prop} {s : Shared} {env : Env} {K : Frag} {h₀ : Heap} {L : Addr} {m : Str → Option Value} {p : Program} {loose : List Str} {mean : ExcName → Option Value} {mg mb : Str → Option Value}
  {x : Str} {np pos : Pos} {e e1 e2 : Expr} {f : Addr} {Q : Value → Shared → Prop}
theorem callK1 (F : Fr h₀ L s.heap m) (X : K.In h₀) (T : Top p loose mean mg mb h₀) (en : nsIn K mainGlobals x = some (some (.ref f))) (hkp : keepIn K (.ref f) = true)
    (hg : env.globals = mainGlobals) (hk : env.scope.kind = .function) (hx : env.kindOf x = some .globalImplicit) (hd : (x == ("__debug__" : Str)) = false)
    (hs : starEach [e] env = [(false, eval e env)])
    (h : wpAny (model prog w) A (eval e env) (fun v s₁ => K.In s₁.heap ∧ wpAny (model prog w) A (call (.ref f) [v]) Q E s₁) E s) :
    wpAny (model prog w) A (eval (.Call (.Name x np) [e] [] pos) env) Q E s := by
  show wpAny (model prog w) A (do callWith pos (← eval (.Name x np) env) [] (backTo pos (starEach [e] env)) (backToKw pos (keywordEach [] env))) Q E s
  refine wpAny_bind (nameG_K F X (topRead_of T) en ?_ hg hk hx hd)
  refine callWith_K X hkp ?_ hs rfl
  rw [hs]
  exact Calls.spliced_cons (wpAny_mono h (fun v s₁ h₁ => Calls.spliced_nil h₁) fun _ _ e => e)
theorem callK2 (F : Fr h₀ L s.heap m) (X : K.In h₀) (T : Top p loose mean mg mb h₀) (en : nsIn K mainGlobals x = some (some (.ref f))) (hkp : keepIn K (.ref f) = true)
    (hg : env.globals = mainGlobals) (hk : env.scope.kind = .function) (hx : env.kindOf x = some .globalImplicit) (hd : (x == ("__debug__" : Str)) = false)
    (hs : starEach [e1, e2] env = [(false, eval e1 env), (false, eval e2 env)]) (hs2 : starEach [e1, e2] env = (false, eval e1 env) :: starEach [e2] env) (hs3 : starEach [e2] env = [(false, eval e2 env)])
    (h : wpAny (model prog w) A (eval e1 env) (fun v s₁ => wpAny (model prog w) A (eval e2 env) (fun v2 s₂ => K.In s₂.heap ∧ wpAny (model prog w) A (call (.ref f) [v, v2]) Q E s₂) E s₁) E s) :
    wpAny (model prog w) A (eval (.Call (.Name x np) [e1, e2] [] pos) env) Q E s := by
  show wpAny (model prog w) A (do callWith pos (← eval (.Name x np) env) [] (backTo pos (starEach [e1, e2] env)) (backToKw pos (keywordEach [] env))) Q E s
  refine wpAny_bind (nameG_K F X (topRead_of T) en ?_ hg hk hx hd)
  refine callWith_K X hkp ?_ hs2 (by rw [hs3]; rfl)
  rw [hs]
  exact Calls.spliced_cons (wpAny_mono h (fun v s₁ h₁ => Calls.spliced_cons (wpAny_mono h₁ (fun v2 s₂ h₂ => Calls.spliced_nil h₂) fun _ _ e => e)) fun _ _ e => e)
theorem callB2 {id : String} (G : s.heap.Ns env.globals mg) (hmg : mg x = none) (B : s.heap.Ns env.builtins mb) (hmb : mb x = some (.builtin id)) (hk : env.scope.kind = .function) (hx : env.kindOf x = some .globalImplicit) (hd : (x == ("__debug__" : Str)) = false)
    (hs : starEach [e1, e2] env = [(false, eval e1 env), (false, eval e2 env)])
    (h : wpAny (model prog w) A (eval e1 env) (fun v s₁ => wpAny (model prog w) A (eval e2 env) (fun v2 s₂ => wpAny (model prog w) A (call (.builtin id) [v, v2]) Q E s₂) E s₁) E s) :
    wpAny (model prog w) A (eval (.Call (.Name x np) [e1, e2] [] pos) env) Q E s := by
  show wpAny (model prog w) A (do callWith pos (← eval (.Name x np) env) [] (backTo pos (starEach [e1, e2] env)) (backToKw pos (keywordEach [] env))) Q E s
  rw [hs]
  refine wpAny_bind (Name_function_global hk hx (loadGlobal_builtin G hmg B hmb ?_) hd)
  exact Calls.callWith_builtin rfl (Calls.evalArgs_plain (Calls.spliced_cons (wpAny_mono h (fun v s₁ h₁ => Calls.spliced_cons (wpAny_mono h₁ (fun v2 s₂ h₂ => Calls.spliced_nil h₂) fun _ _ e => e)) fun _ _ e => e)))
end
end Mine
namespace Mine
variable {prog : Program} {w : World} {p : Program} {loose : List Str} {mean : ExcName → Option Value} {mg mb : Str → Option Value} {dp un : Nat} {gd : Option (List Code)} {cn : Str} {cs : Scope} {a : Addr} {ccd : Value} {cl : List (Str × Addr)} {outer : List Env} {A₀ : Around} {base h₀ : Heap} {L : Addr} {m : Str → Option Value} {s : Shared} {Q : Value → Shared → Prop} {E : Value → Shared → Prop} {news : List (Addr × Obj)}
noncomputable abbrev KT := List (Str ⊕ Int)
noncomputable abbrev TK (prog : Program) (w : World) : HeapKind prog w KT := tupleKind (mixKind prog w)
theorem dh_keep {xs : List (KT × Addr × Value)} {d : Addr} {h h' : Heap} (x : h.DictOfH (TK prog w) d xs) (k : ∀ b o, (b = d ∨ b ∈ xs.map (fun x => x.2.1)) → h.get? b = some o → h'.get? b = some o) : h'.DictOfH (TK prog w) d xs := by
  obtain ⟨o, es, ep, ho, hc, hd, he, hi, hn⟩ := x
  refine ⟨o, es, ep, k d o (.inl rfl) ho, hc, hd, he, fun z hz => ?_, hn⟩
  obtain ⟨o', items, n, ho', r⟩ := hi z hz
  exact ⟨o', items, n, k _ _ (.inr (List.mem_map.mpr ⟨z, hz, rfl⟩)) ho', r⟩
theorem dh_E {xs : List (KT × Addr × Value)} {d : Addr} {h : Heap} (x : h.DictOfH (TK prog w) d xs) : ∃ es ep, DictE h d es ep ∧ es.toList = xs.map (entryOfKey (TK prog w)) := by
  obtain ⟨o, es, ep, ho, hc, hd, he, hi, hn⟩ := x
  exact ⟨es, ep, ⟨o, ho, hc, hd⟩, he⟩
theorem dh_key {xs : List (KT × Addr × Value)} {d : Addr} {h : Heap} (x : h.DictOfH (TK prog w) d xs) : ∀ z ∈ xs, IsTupleKey (mixKind prog w) h z.1 z.2.1 := by
  obtain ⟨o, es, ep, ho, hc, hd, he, hi, hn⟩ := x
  exact hi
theorem dh_dom {xs : List (KT × Addr × Value)} {d : Addr} {h : Heap} (x : h.DictOfH (TK prog w) d xs) : ∀ b, (b = d ∨ b ∈ xs.map (fun x => x.2.1)) → ∃ o, h.get? b = some o := by
  rintro b (rfl | hb)
  · obtain ⟨o, _, _, ho, _⟩ := x; exact ⟨o, ho⟩
  · obtain ⟨z, hz, rfl⟩ := List.mem_map.mp hb
    obtain ⟨o', _, _, ho', _⟩ := dh_key x z hz
    exact ⟨o', ho'⟩
theorem dh_nodup {xs : List (KT × Addr × Value)} {d : Addr} {h : Heap} (x : h.DictOfH (TK prog w) d xs) : (xs.map (·.1)).Nodup := by
  obtain ⟨o, es, ep, ho, hc, hd, he, hi, hn⟩ := x
  exact hn
theorem tk_keep {k : KT} {a : Addr} {h h' : Heap} (x : IsTupleKey (mixKind prog w) h k a) (e : ∀ o, h.get? a = some o → h'.get? a = some o) : IsTupleKey (mixKind prog w) h' k a :=
  let ⟨o, items, n, ho, r⟩ := x; ⟨o, items, n, e _ ho, r⟩
theorem take_stored {xs : List (KT × Addr × Value)} (hn : (xs.map (·.1)).Nodup) {i : Nat} {z : KT × Addr × Value} (hz : xs[i]? = some z) : storedH (xs.take i) z.1 z.2.1 z.2.2 = xs.take (i + 1) := by
  have hnone : atKey (xs.take i) z.1 = none := by
    refine atKey_none_of_get fun j q hj => ?_
    have hji : j < i := by
      rcases Nat.lt_or_ge j i with h | h
      · exact h
      · rw [List.getElem?_eq_none (by rw [List.length_take]; omega)] at hj; cases hj
    rw [List.getElem?_take, if_pos hji] at hj
    have := idxH_unique hn (k := z.1) (p := q) (q := z.2) hj hz
    omega
  rw [storedH_new hnone, List.take_add_one, hz]
  rfl
theorem not_sys {g h : Heap} {L D : Nat} {m' : Str → Option Value} (T : Top p loose mean mg mb g) (F : Fr g L h m') (hD : L < D) : ((D : Addr) == sysModules) = false := by
  have h1 : mainGlobals < g.objs.size := T.g.lt
  have h2 := F.above
  have h3 : mainGlobals = 3 := rfl
  have h4 : (1 : Nat) < D := by
    have : (3 : Nat) < g.objs.size := h1
    exact Nat.lt_trans (by decide) (Nat.lt_trans (Nat.lt_of_lt_of_le this h2) hD)
  exact beq_eq_false_iff_ne.mpr (Nat.ne_of_gt h4)
theorem ne_frame {g H h : Heap} {y L' : Nat} {oy : Obj} {m' : Str → Option Value} (G : GSub H g [y]) (F : Fr g L' h m') (N : News g L' h [(y, oy)]) : ∀ b o, H.get? b = some o → b ≠ L' := by
  intro b o e
  by_cases hb : b = y
  · rw [hb]; exact (N _ (List.Mem.head _)).2.1
  · exact Nat.ne_of_lt (Nat.lt_of_lt_of_le (Heap.lt_size (G b o e (fun q => hb (List.mem_singleton.mp q)))) F.above)
noncomputable abbrev nNew : Str := Str.ofString "new_callers"
noncomputable abbrev nFunc : Str := Str.ofString "func"
noncomputable abbrev nCaller : Str := Str.ofString "caller"
noncomputable abbrev nTarget : Str := Str.ofString "target"
noncomputable abbrev nSource : Str := Str.ofString "source"
/-- what a second dict of one entry makes of the first -/
noncomputable def AddV (xs : List (KT × Addr × Value)) (k : KT) (c1 : Int) (v' : Value) : Prop :=
  (∀ q, atKey xs k = some q → ∃ c t t', q.2 = .int c t ∧ v' = .int (c + c1) t') ∧ (atKey xs k = none → ∃ t', v' = .int c1 t')
set_option maxHeartbeats 8000000 in
theorem c_add {xs : List (KT × Addr × Value)} {d S a1 : Nat} {k : KT} {c1 : Int} {t1 : Tok} {y : Nat} {oy : Obj}
  (B : Below A₀ base outer h₀) (F : Fr h₀ L s.heap m) (X : (Mine.hd.heap_39 w.params).In h₀) (N : News h₀ L s.heap [(y, oy)]) (T : Top p loose mean mg mb h₀) (hk : cs.kind = .function)
  (hd : dp + 30 < recursionLimit) (hu : un + 30 < cLine)
  (hxs : s.heap.DictOfH (TK prog w) d xs) (hS : s.heap.DictOfH (TK prog w) S [(k, a1, .int c1 t1)]) (hdS : (d == sysModules) = false) (hSS : (S == sysModules) = false) (hz : xs.length ≤ 1000) (hint : ∀ z ∈ xs, ∃ c t, z.2.2 = .int c t)
  (hQ : ∀ (D : Nat) (h' : Heap) (tk' : Nat) (v' : Value), AddV xs k c1 v' → (∀ b o, s.heap.get? b = some o → h'.get? b = some o) → s.heap.get? D = none → (D == sysModules) = false → h'.DictOfH (TK prog w) D (storedH xs k a1 v') → y < D → Fr h₀ L h' m → Q (.ref D) { s with heap := h', toks := tk' }) :
  wpAny (model prog w) (ktrTop dp un gd cn cs L a ccd cl outer) (call (.ref 84) [.ref d, .ref S]) Q E s := by
  obtain ⟨ck, cnames, c3, c4, c5⟩ := cs
  dsimp only at hk
  subst hk
  refine wpAny_call ?_
  (refine' code_defG ?k1 ?k2 ?k3 ?k4 ?k5 ?kA ?kF ?kK ?k6 ?k7 ?k8 ?k9 ?kB ?_ ?c2 ?c3 ?c4 ?c5; (case kA => exact rfl); (case kF => exact rfl); (case kK => exact rfl); (case k1 => k_asm); (case k2 => k_asm); (case k3 => k_asm); (case k4 => k_asm); (case k5 => k_asm); (case k6 => k_is); (case k7 => k_is); (case k8 => k_room); (case k9 => exact BindsTo.of_eq rfl); (case c5 => decide); (case kB => exact locs rfl); (case c2 => exact rfl); (case c3 => exact rfl); (case c4 => exact rfl); k_whole; intro g' L' h' FG' F' N' B' X' T' GS'; (try dsimp only); (try k_lift B'); (try k_fold))
  have KA := keep_all GS' N F' (N' _ (List.Mem.head _)).1
  have NF := ne_frame GS' F' N'
  have hLz : L' < h'.objs.size := F'.ns.lt
  have hu1 : ∀ k : Nat, k ≤ 20 → un + k < cLine := fun k hk => by omega
  -- the new dict
  refine wpAny_execs_cons (wpAny_Assign_Name (wpAny_Dict_empty (wpAny_storeName_local (by rfl) (F'.ns.push _) (fun h2 hn2 hs2 => ?_) (by rfl))))
  replace hs2 : Heap.SameBut L' (h'.push { cls := .type "dict", data := .dict #[] }) h2 := hs2
  have hLD : L' ≠ h'.objs.size := Nat.ne_of_lt hLz
  have hD2 : h2.DictOfH (TK prog w) h'.objs.size [] := dh_keep (Heap.DictOfH.new h') fun b o hb e => by
    rcases hb with rfl | hb
    · exact hs2.extBut _ _ (Ne.symm hLD) e
    · cases hb
  have k2 : ∀ b o, s.heap.get? b = some o → h2.get? b = some o := fun b o e => hs2.extBut b o (NF b o e) (Heap.get?_push_of_some _ (KA b o e))
  have ltD : ∀ b o, s.heap.get? b = some o → b ≠ h'.objs.size := fun b o e => Nat.ne_of_lt (Heap.lt_size (KA b o e))
  have z2 : h2.objs.size = h'.objs.size + 1 := by rw [hs2.1, Heap.size_push]
  have domx := dh_dom hxs
  have domS := dh_dom hS
  have hx2 : h2.DictOfH (TK prog w) d xs := dh_keep hxs fun b o _ e => k2 b o e
  obtain ⟨es, ep, hE, hes⟩ := dh_E hx2
  have hsz : es.size = xs.length := size_of_entries hes
  have hkd : ∀ b ∈ xs.map (fun x => x.2.1), b ≠ L' ∧ b < h2.objs.size ∧ b ≠ h'.objs.size := fun b hb => by
    obtain ⟨o, ho⟩ := domx b (.inr hb)
    exact ⟨NF b o ho, Heap.lt_size (k2 b o ho), ltD b o ho⟩
  obtain ⟨od, hod⟩ := domx d (.inl rfl)
  have hent : ∀ (i : Nat) (hi : i < es.size), ∃ z, xs[i]? = some z ∧ es[i].key = .ref z.2.1 ∧ es[i].val = z.2.2 := fun i hi => by
    have h1 := entry_at hes i
    rw [Array.getElem?_eq_getElem hi] at h1
    cases hx : xs[i]? with
    | none => rw [hx] at h1; cases h1
    | some z =>
      rw [hx] at h1
      have h2 : es[i] = entryOfKey (TK prog w) z := Option.some.inj h1
      exact ⟨z, rfl, by rw [h2]; rfl, by rw [h2]; rfl⟩
  refine wpAny_execs_cons (forItems (d := d) (es := es) (ep := ep)
    (J := fun it i h m => m nNew = some (.ref h'.objs.size) ∧ m nSource = some (.ref S) ∧ h.DictOfH (TK prog w) h'.objs.size (xs.take i) ∧ ∀ b o, b ≠ L' → b ≠ h'.objs.size → h2.get? b = some o → h.get? b = some o)
    rfl (by rfl) (by rfl) rfl (NF d od hod) (by decide) hdS hE hn2 (by rfl) (by rfl) (fun Q' hq => wpAny_Name (wpAny_loadName_local rfl (by rfl) hn2 (by rfl) hq) (by decide)) (by intro _; rfl) ?fr ?nm ?st ?z ?dn)
  case fr =>
    intro it hit i h h9 m ⟨e1, e2, e3, e4⟩ hk
    have hne : ∀ b o, h2.get? b = some o → b ≠ it := fun b o e => Nat.ne_of_lt (Nat.lt_of_lt_of_le (Heap.lt_size e) hit)
    refine ⟨e1, e2, dh_keep e3 fun b o hb e => hk b o ?_ ?_ e, fun b o hL hD e => hk b o (hne b o e) hL (e4 b o hL hD e)⟩
    · rcases hb with rfl | hb
      · exact Nat.ne_of_lt (Nat.lt_of_lt_of_le (by rw [z2]; exact Nat.lt_succ_self _) hit)
      · exact Nat.ne_of_lt (Nat.lt_of_lt_of_le (hkd b (List.mem_of_mem_take (by rw [← List.map_take]; exact hb))).2.1 hit)
    · rcases hb with rfl | hb
      · exact Ne.symm hLD
      · exact (hkd b (List.mem_of_mem_take (by rw [← List.map_take]; exact hb))).1
  case nm =>
    intro it i h m u v ⟨e1, e2, e3⟩
    exact ⟨e1, e2, e3⟩
  case z =>
    intro it h9 hit hk hn
    refine ⟨rfl, rfl, ?_, fun b o _ _ e => hk b o e⟩
    exact dh_keep hD2 fun b o _ e => hk b o e
  case st =>
    intro it hit i hi m₁ s₁ E' ⟨e1, e2, e3, e4⟩ hn hv hf
    obtain ⟨z, hz1, hz2, hz3⟩ := hent i hi
    rw [hz3] at hv
    rw [hz2] at hf
    have hmem := List.mem_of_getElem? hz1
    have hzk : IsTupleKey (mixKind prog w) s₁.heap z.1 z.2.1 := tk_keep (dh_key hx2 z hmem) fun o e => e4 _ o (hkd _ (List.mem_map.mpr ⟨z, hmem, rfl⟩)).1 (hkd _ (List.mem_map.mpr ⟨z, hmem, rfl⟩)).2.2 e
    refine wpAny_execs_cons (wpAny_Assign_Subscript (wpAny_Name (wpAny_loadName_local rfl (by rfl) hn hv (wpAny_Name (wpAny_loadName_local rfl (by rfl) hn e1 (wpAny_Name (wpAny_loadName_local rfl (by rfl) hn hf
      (wpAny_setItem_heap (knd := TK prog w) (k := z.1) ?_ hzk e3 (fun h9 hd9 hs9 => wpAny_execs_nil ?_) ?_)) (by decide))) (by decide))) (by decide)))
    · show un + 3 + 1 < cLine
      omega
    · replace hs9 : Heap.SameBut h'.objs.size s₁.heap h9 := hs9
      rw [take_stored (dh_nodup hxs) hz1] at hd9
      have hne : h'.objs.size ≠ it := Nat.ne_of_lt (Nat.lt_of_lt_of_le (by rw [z2]; exact Nat.lt_succ_self _) hit)
      refine ⟨rfl, h9, _, m₁, rfl, hn.sameBut hs9 hLD, ⟨e1, e2, hd9, fun b o hL hD e => hs9.extBut b o hD (e4 b o hL hD e)⟩, fun b hb o e => hs9.extBut b o ?_ e⟩
      rcases hb with q | q
      · rw [q]; exact Ne.symm hne
      · rw [q]; exact ltD d od hod
    · rw [List.length_take]
      have : (1000 : Nat) ≤ sizeLine := by decide
      omega
  case dn =>
    intro it h3 tk3 m3 hit hn3 ⟨e1, e2, e3, e4⟩
    rw [hsz, List.take_length] at e3
    have k3 : ∀ b o, s.heap.get? b = some o → h3.get? b = some o := fun b o e => e4 b o (NF b o e) (ltD b o e) (k2 b o e)
    have hS3 : h3.DictOfH (TK prog w) S [(k, a1, .int c1 t1)] := dh_keep hS fun b o _ e => k3 b o e
    obtain ⟨eS, epS, hES, hesS⟩ := dh_E hS3
    have hszS : eS.size = 1 := size_of_entries hesS
    obtain ⟨oS, hoS⟩ := domS S (.inl rfl)
    obtain ⟨oa, hoa⟩ := domS a1 (.inr (List.mem_singleton.mpr rfl))
    have hentS : ∀ (i : Nat) (hi : i < eS.size), i = 0 ∧ eS[i].key = .ref a1 ∧ eS[i].val = .int c1 t1 := fun i hi => by
      have h1 := entry_at hesS i
      rw [Array.getElem?_eq_getElem hi] at h1
      have h0 : i = 0 := by omega
      subst h0
      have h2 : eS[0] = entryOfKey (TK prog w) (k, a1, .int c1 t1) := Option.some.inj h1
      exact ⟨rfl, by rw [h2]; rfl, by rw [h2]; rfl⟩
    have z3 : h'.objs.size < h3.objs.size := by
      obtain ⟨o, ho⟩ := dh_dom e3 h'.objs.size (.inl rfl)
      exact Heap.lt_size ho
    have hkd3 : ∀ b ∈ xs.map (fun x => x.2.1), b ≠ L' ∧ b < h3.objs.size ∧ b ≠ h'.objs.size := fun b hb => by
      obtain ⟨o, ho⟩ := domx b (.inr hb)
      exact ⟨NF b o ho, Heap.lt_size (k3 b o ho), ltD b o ho⟩
    have hka : a1 ≠ L' ∧ a1 < h3.objs.size ∧ a1 ≠ h'.objs.size := ⟨NF _ _ hoa, Heap.lt_size (k3 _ _ hoa), ltD _ _ hoa⟩
    refine wpAny_execs_cons (forItems (d := S) (es := eS) (ep := epS)
      (J := fun it i h m => m nNew = some (.ref h'.objs.size) ∧ (∀ b o, b ≠ L' → b ≠ h'.objs.size → h3.get? b = some o → h.get? b = some o) ∧
        (i = 0 → h.DictOfH (TK prog w) h'.objs.size xs) ∧ (i = 1 → ∃ v', AddV xs k c1 v' ∧ h.DictOfH (TK prog w) h'.objs.size (storedH xs k a1 v')))
      rfl (by rfl) (by rfl) rfl (NF S oS hoS) (by decide) hSS hES hn3 (by rfl) (by rfl) (fun Q' hq => wpAny_Name (wpAny_loadName_local rfl (by rfl) hn3 e2 hq) (by decide)) (by intro _; rfl) ?fr ?nm ?st ?z ?dn)
    case fr =>
      intro it hit i h h9 m ⟨q1, q2, q3, q4⟩ hk
      have hne : ∀ b o, h3.get? b = some o → b ≠ it := fun b o e => Nat.ne_of_lt (Nat.lt_of_lt_of_le (Heap.lt_size e) hit)
      have hDit : h'.objs.size ≠ it := Nat.ne_of_lt (Nat.lt_of_lt_of_le z3 hit)
      refine ⟨q1, fun b o hL hD e => hk b o (hne b o e) hL (q2 b o hL hD e), fun hi => dh_keep (q3 hi) fun b o hb e => hk b o ?_ ?_ e, fun hi => ?_⟩
      · rcases hb with rfl | hb
        · exact hDit
        · exact Nat.ne_of_lt (Nat.lt_of_lt_of_le (hkd3 b hb).2.1 hit)
      · rcases hb with rfl | hb
        · exact Ne.symm hLD
        · exact (hkd3 b hb).1
      · obtain ⟨v', hv', hD'⟩ := q4 hi
        refine ⟨v', hv', dh_keep hD' fun b o hb e => ?_⟩
        have hb2 : b ≠ it ∧ b ≠ L' := by
          rcases hb with rfl | hb
          · exact ⟨hDit, Ne.symm hLD⟩
          · obtain ⟨z, hz, rfl⟩ := List.mem_map.mp hb
            rcases mem_storedH hz with ⟨z', hz', _, e2⟩ | ⟨_, e2⟩
            · rw [e2]
              have := hkd3 z'.2.1 (List.mem_map.mpr ⟨z', hz', rfl⟩)
              exact ⟨Nat.ne_of_lt (Nat.lt_of_lt_of_le this.2.1 hit), this.1⟩
            · rw [e2]
              exact ⟨Nat.ne_of_lt (Nat.lt_of_lt_of_le hka.2.1 hit), hka.1⟩
        exact hk b o hb2.1 hb2.2 e
    case nm =>
      intro it i h m u v ⟨q1, q2⟩
      exact ⟨q1, q2⟩
    case z =>
      intro it h9 hit hk hn
      exact ⟨e1, fun b o _ _ e => hk b o e, fun _ => dh_keep e3 fun b o _ e => hk b o e, fun q => by cases q⟩
    case st =>
      intro it hit i hi m₁ s₁ E' ⟨q1, q2, q3, q4⟩ hn hv hf
      obtain ⟨rfl, hk1, hv1⟩ := hentS i hi
      rw [hv1] at hv
      rw [hk1] at hf
      have hD := q3 rfl
      have hsys := not_sys T' F' hLz
      have hzk : IsTupleKey (mixKind prog w) s₁.heap k a1 := tk_keep (dh_key hS3 (k, a1, .int c1 t1) (List.mem_singleton.mpr rfl)) fun o e => q2 _ o hka.1 hka.2.2 e
      have hne : h'.objs.size ≠ it := Nat.ne_of_lt (Nat.lt_of_lt_of_le z3 hit)
      have hSD : S ≠ h'.objs.size := ltD S oS hoS
      have hroom : ∀ ev : Env, (TK prog w).room ((ktrTop dp un gd cn { kind := .function, names := cnames, isGenerator := c3, isCoroutine := c4, more := c5 } L a ccd cl outer).deeper ev).in1 := fun ev => by
        show un + 3 + 1 < cLine
        omega
      have fin : ∀ (h9 : Heap) (tk9 : Nat) (v' : Value), AddV xs k c1 v' → h9.DictOfH (TK prog w) h'.objs.size (storedH xs k a1 v') → Heap.SameBut h'.objs.size s₁.heap h9 →
          (Flow.next = .next ∧ ∃ h₂ tk m₂, ({ s₁ with heap := h9, toks := tk9 } : Shared) = { s₁ with heap := h₂, toks := tk } ∧ h₂.Ns L' m₂ ∧ (m₂ nNew = some (.ref h'.objs.size) ∧ (∀ b o, b ≠ L' → b ≠ h'.objs.size → h3.get? b = some o → h₂.get? b = some o) ∧
            (0 + 1 = 0 → h₂.DictOfH (TK prog w) h'.objs.size xs) ∧ (0 + 1 = 1 → ∃ v', AddV xs k c1 v' ∧ h₂.DictOfH (TK prog w) h'.objs.size (storedH xs k a1 v'))) ∧ (∀ b, b = it ∨ b = S → ∀ o, s₁.heap.get? b = some o → h₂.get? b = some o)) := by
        intro h9 tk9 v' hv' hd9 hs9
        refine ⟨rfl, h9, tk9, m₁, rfl, hn.sameBut hs9 hLD, ⟨q1, fun b o hL hD e => hs9.extBut b o hD (q2 b o hL hD e), (fun q => by cases q), fun _ => ⟨v', hv', hd9⟩⟩, fun b hb o e => hs9.extBut b o ?_ e⟩
        rcases hb with q | q
        · rw [q]; exact Ne.symm hne
        · rw [q]; exact hSD
      have hsl : xs.length ≤ sizeLine := by
        have : (1000 : Nat) ≤ sizeLine := by decide
        omega
      refine wpAny_execs_cons (wpAny_If (wpAny_isTrue_Compare1 (wpAny_Name (wpAny_loadName_local rfl (by rfl) hn hf (wpAny_Name (wpAny_loadName_local rfl (by rfl) hn q1 (wpAny_in_heap (knd := TK prog w) (k := k) (hroom _) hzk hsys hD (wpAny_truthy_bool ?_))) (by decide))) (by decide))))
      cases hat : atKey xs k with
      | none =>
        rw [if_neg (by simp)]
        refine wpAny_execs_cons (wpAny_Assign_Subscript (wpAny_Name (wpAny_loadName_local rfl (by rfl) hn hv (wpAny_Name (wpAny_loadName_local rfl (by rfl) hn q1 (wpAny_Name (wpAny_loadName_local rfl (by rfl) hn hf
          (wpAny_setItem_heap (knd := TK prog w) (k := k) (hroom _) hzk hD (fun h9 hd9 hs9 => wpAny_execs_nil (wpAny_execs_nil ?_)) hsl)) (by decide))) (by decide))) (by decide)))
        exact fin h9 _ _ ⟨(fun q hq => by rw [hat] at hq; cases hq), fun _ => ⟨t1, rfl⟩⟩ hd9 hs9
      | some q =>
        rw [if_pos (by simp)]
        obtain ⟨c, t, hct⟩ : ∃ c t, q.2 = .int c t := by
          unfold atKey at hat
          cases hf' : xs.find? (fun x => decide (x.1 = k)) with
          | none => rw [hf'] at hat; cases hat
          | some z =>
            rw [hf'] at hat
            obtain ⟨c, t, h⟩ := hint z (List.mem_of_find?_eq_some hf')
            exact ⟨c, t, by rw [← Option.some.inj hat]; exact h⟩
        have kG : ∀ b o, g'.get? b = some o → s₁.heap.get? b = some o := fun b o e => by
          have e1 := F'.keep b o e
          have hbL : b ≠ L' := Nat.ne_of_lt (Nat.lt_of_lt_of_le (Heap.lt_size e) F'.above)
          have hbD : b ≠ h'.objs.size := Nat.ne_of_lt (Heap.lt_size e1)
          exact q2 b o hbL hbD (e4 b o hbL hbD (hs2.extBut b o hbL (Heap.get?_push_of_some _ e1)))
        have kT := fun (s₂ : Shared) (e : ∀ b o, s₁.heap.get? b = some o → s₂.heap.get? b = some o) => T'.g.keeps fun b o eb => e b o (kG b o eb)
        refine wpAny_execs_cons (wpAny_If (wpAny_isTrue_value (callB2 (id := "isinstance") (T'.g.keeps kG) (mg_none_of X' T'.g (by k_is)) (T'.b.keeps kG) ((T'.builtins _ (by decide)).trans (by decide +kernel)) rfl (by rfl) (by decide) (by rfl)
          (wpAny_Name (wpAny_loadName_local rfl (by rfl) hn hv (Name_function_global rfl (by rfl) (loadGlobal_builtin (T'.g.keeps kG) (mg_none_of X' T'.g (by k_is)) (T'.b.keeps kG) (show mb (Str.ofString "tuple") = some (.type "tuple") from (T'.builtins _ (by decide)).trans (by decide +kernel)) (IsiPair.int_tuple (wpAny_truthy_bool ?_))) (by decide))) (by decide)))))
        rw [if_neg Bool.false_ne_true]
        refine wpAny_execs_cons (wpAny_AugAssign_Subscript (wpAny_Name (wpAny_loadName_local rfl (by rfl) hn q1 (wpAny_Name (wpAny_loadName_local rfl (by rfl) hn hf (wpAny_getItem_heap (knd := TK prog w) (k := k) (hroom _) hzk hD hat ?_)) (by decide))) (by decide)))
        rw [hct]
        refine wpAny_Name (wpAny_loadName_local rfl (by rfl) hn hv (wpAny_iadd_int (wpAny_setItem_heap (knd := TK prog w) (k := k) (hroom _) hzk hD (fun h9 hd9 hs9 => wpAny_execs_nil (wpAny_execs_nil (wpAny_execs_nil ?_))) hsl))) (by decide)
        exact fin h9 _ _ ⟨(fun q' hq => by rw [hat] at hq; cases hq; exact ⟨c, t, _, hct, rfl⟩), (fun e => by rw [hat] at e; cases e)⟩ hd9 hs9
    case dn =>
      intro it h4 tk4 m4 hit hn4 ⟨q1, q2, q3, q4⟩
      rw [hszS] at q4
      obtain ⟨v', hv', hD4⟩ := q4 rfl
      have k4 : ∀ b o, s.heap.get? b = some o → h4.get? b = some o := fun b o e => q2 b o (NF b o e) (ltD b o e) (k3 b o e)
      have kG : ∀ b o, g'.get? b = some o → h4.get? b = some o := fun b o e => by
        have e1 := F'.keep b o e
        have hbL : b ≠ L' := Nat.ne_of_lt (Nat.lt_of_lt_of_le (Heap.lt_size e) F'.above)
        have hbD : b ≠ h'.objs.size := Nat.ne_of_lt (Heap.lt_size e1)
        exact q2 b o hbL hbD (e4 b o hbL hbD (hs2.extBut b o hbL (Heap.get?_push_of_some _ e1)))
      have F4 : Fr g' L' h4 m4 := ⟨hn4, kG, F'.above⟩
      have N4 : News g' L' h4 [(y, oy)] := List.forall_mem_cons.mpr ⟨⟨k4 _ _ (N _ (List.Mem.head _)).1, (N' _ (List.Mem.head _)).2⟩, fun _ hp => nomatch hp⟩
      refine wpAny_execs_cons (wpAny_Return_some (wpAny_Name (wpAny_loadName_local rfl (by rfl) hn4 q1 ?_) (by decide)))
      show LeaveK h₀ L m g' _ _ _
      refine leaveK_ F4 N4 fun F5 N5 => ?_
      refine hQ h'.objs.size h4 _ v' hv' k4 ?_ (not_sys T' F' hLz) hD4 (Heap.lt_size (KA _ _ (N _ (List.Mem.head _)).1)) F5
      cases e : s.heap.get? h'.objs.size with
      | none => rfl
      | some o => exact absurd (Heap.lt_size (KA _ _ e)) (Nat.lt_irrefl _)
end Mine
namespace Mine
variable {prog : Program} {w : World} {p : Program} {loose : List Str} {mean : ExcName → Option Value} {mg mb : Str → Option Value} {dp un : Nat} {gd : Option (List Code)} {cn : Str} {cs : Scope} {a : Addr} {ccd : Value} {cl : List (Str × Addr)} {outer : List Env} {A₀ : Around} {base h₀ : Heap} {L : Addr} {m : Str → Option Value} {s : Shared} {Q : Value → Shared → Prop} {E : Value → Shared → Prop} {news : List (Addr × Obj)}
noncomputable abbrev nNc : Str := Str.ofString "nc"
noncomputable abbrev nCalls : Str := Str.ofString "calls"
noncomputable def sumD : List (KT × Addr × Value) → Int
  | [] => 0
  | x :: r => (match x.2.2 with | .int c _ => c | _ => 0) + sumD r
theorem sumD_take {xs : List (KT × Addr × Value)} {i : Nat} {z : KT × Addr × Value} {c : Int} {t : Tok} (hz : xs[i]? = some z) (hc : z.2.2 = .int c t) : sumD (xs.take (i + 1)) = sumD (xs.take i) + c := by
  induction xs generalizing i with
  | nil => simp at hz
  | cons x r ih =>
    cases i with
    | zero =>
      simp only [List.getElem?_cons_zero, Option.some.injEq] at hz
      subst hz
      simp [sumD, hc]
    | succ i =>
      simp only [List.getElem?_cons_succ] at hz
      simp only [List.take_succ_cons, sumD, ih hz]
      omega
set_option maxHeartbeats 8000000 in
theorem c_cnt {xs : List (KT × Addr × Value)} {d : Nat} {y : Nat} {oy : Obj}
  (B : Below A₀ base outer h₀) (F : Fr h₀ L s.heap m) (X : (Mine.hd.heap_39 w.params).In h₀) (N : News h₀ L s.heap [(y, oy)]) (T : Top p loose mean mg mb h₀) (hk : cs.kind = .function)
  (hd : dp + 30 < recursionLimit) (hxs : s.heap.DictOfH (TK prog w) d xs) (hdS : (d == sysModules) = false) (hint : ∀ z ∈ xs, ∃ c t, z.2.2 = .int c t)
  (hQ : ∀ (h' : Heap) (tk' : Nat) (u : Tok), (∀ b o, s.heap.get? b = some o → h'.get? b = some o) → Fr h₀ L h' m → Q (.int (sumD xs) u) { s with heap := h', toks := tk' }) :
  wpAny (model prog w) (ktrTop dp un gd cn cs L a ccd cl outer) (call (.ref 91) [.ref d]) Q E s := by
  obtain ⟨ck, cnames, c3, c4, c5⟩ := cs
  dsimp only at hk
  subst hk
  refine wpAny_call ?_
  (refine' code_defG ?k1 ?k2 ?k3 ?k4 ?k5 ?kA ?kF ?kK ?k6 ?k7 ?k8 ?k9 ?kB ?_ ?c2 ?c3 ?c4 ?c5; (case kA => exact rfl); (case kF => exact rfl); (case kK => exact rfl); (case k1 => k_asm); (case k2 => k_asm); (case k3 => k_asm); (case k4 => k_asm); (case k5 => k_asm); (case k6 => k_is); (case k7 => k_is); (case k8 => k_room); (case k9 => exact BindsTo.of_eq rfl); (case c5 => decide); (case kB => exact locs rfl); (case c2 => exact rfl); (case c3 => exact rfl); (case c4 => exact rfl); k_whole; intro g' L' h' FG' F' N' B' X' T' GS'; (try dsimp only); (try k_lift B'); (try k_fold))
  have KA := keep_all GS' N F' (N' _ (List.Mem.head _)).1
  have NF := ne_frame GS' F' N'
  have hLz : L' < h'.objs.size := F'.ns.lt
  have domx := dh_dom hxs
  have hx2 : h'.DictOfH (TK prog w) d xs := dh_keep hxs fun b o _ e => KA b o e
  obtain ⟨es, ep, hE, hes⟩ := dh_E hx2
  have hsz : es.size = xs.length := size_of_entries hes
  obtain ⟨od, hod⟩ := domx d (.inl rfl)
  have hent : ∀ (i : Nat) (hi : i < es.size), ∃ z, xs[i]? = some z ∧ es[i].val = z.2.2 := fun i hi => by
    have h1 := entry_at hes i
    rw [Array.getElem?_eq_getElem hi] at h1
    cases hx : xs[i]? with
    | none => rw [hx] at h1; cases h1
    | some z =>
      rw [hx] at h1
      have h2 : es[i] = entryOfKey (TK prog w) z := Option.some.inj h1
      exact ⟨z, rfl, by rw [h2]; rfl⟩
  refine wpAny_execs_cons (wpAny_Assign_Name (wpAny_Constant_int (wpAny_storeName_local (by rfl) F'.ns (fun h2 hn2 hs2 => ?_) (by rfl))))
  replace hs2 : Heap.SameBut L' h' h2 := hs2
  have hE2 : DictE h2 d es ep := hE.at fun o e => hs2.extBut _ _ (NF d od hod) e
  refine wpAny_execs_cons (wpAny_For ?_ (by intro _; rfl))
  refine wpAny_Call_method (T := "dict") (id := "dict.values") (by rfl) rfl (by rfl) PySem.F.plainAttrs_dict PySem.F.slot_dict_values PySem.F.type_dict_values (wpAny_Name (wpAny_loadName_local rfl (by rfl) hn2 (by rfl) ⟨hE2.typeIs, ?_, ?_⟩) (by decide))
  · intro a e
    cases e
    obtain ⟨o', ho', hc, _⟩ := hE2
    exact ⟨o', ho', hc.2.1⟩
  show wpAny _ _ (callWith _ (.builtin "dict.values") [.ref d] [] []) _ _ _
  have meets : MeetsIn prog w (Builtin.«dict.values» ⟨[.ref d], []⟩) (fun _ R s => (∃ es ep, DictE s.heap d es ep) ∧
      R (.ok (.ret (.ref s.heap.objs.size))) { s with heap := s.heap.push { cls := .type "dict_values", data := .fields #[.ref d] } }) :=
    .of_wp fun A R s ⟨⟨es, ep, hm⟩, h⟩ => by
      refine wpAny_bind ?_
      unfold Builtin.Dict.noArgs
      refine wpAny_bind (wpAny_notOrdered_dict hm.typeIs ?_)
      show wpAny _ _ (pure d) _ _ s
      refine wpAny_pure ?_
      show wpAny _ _ (Builtin.Dict.showsAll d >>= _) _ _ s
      unfold Builtin.Dict.showsAll
      rw [if_neg (by rw [hdS]; exact Bool.false_ne_true)]
      refine wpAny_bind (wpAny_pure ?_)
      exact wpAny_bind (wpAny_newObj_type (wpAny_pure ⟨_, rfl, h⟩))
  refine method_meetsIn PySem.F.slot_dict_values PySem.F.entry_dict_values rfl (PySem.evalArgs_none ⟨rfl, hE2.typeIs, PySem.F.args_dict_values_1 _, _, meets, ⟨es, ep, hE2⟩, ?_⟩)
  have hsz2 : (h2.push { cls := .type "dict_values", data := .fields #[.ref d] }).objs.size = h2.objs.size + 1 := Heap.size_push ..
  have up1 : ∀ b o, h2.get? b = some o → (h2.push { cls := .type "dict_values", data := .fields #[.ref d] }).get? b = some o := fun b o e => Heap.get?_push_of_some _ e
  refine valsIter (d := d) (es := es) (ep := ep) ⟨_, Heap.get?_push_size _ rfl, rfl, rfl⟩ (hE2.at fun o e => up1 _ o e) ?_
  have up2 : ∀ b o, h2.get? b = some o → ((h2.push { cls := .type "dict_values", data := .fields #[.ref d] }).push { cls := .type "dict_valueiterator", data := .fields #[.ref d, .int 0 0, .int es.size 0, .int ep 0] }).get? b = some o := fun b o e => Heap.get?_push_of_some _ (up1 b o e)
  have hle : h2.objs.size ≤ (h2.push { cls := .type "dict_values", data := .fields #[.ref d] }).objs.size := by rw [hsz2]; exact Nat.le_succ _
  have hLz2 : L' < h2.objs.size := hn2.lt
  have hIL : (h2.push { cls := .type "dict_values", data := .fields #[.ref d] }).objs.size ≠ L' := Nat.ne_of_gt (Nat.lt_of_lt_of_le hLz2 hle)
  have hdI : d ≠ (h2.push { cls := .type "dict_values", data := .fields #[.ref d] }).objs.size := Nat.ne_of_lt (Nat.lt_of_lt_of_le hE2.lt hle)
  have hit0 : ((h2.push { cls := .type "dict_values", data := .fields #[.ref d] }).push { cls := .type "dict_valueiterator", data := .fields #[.ref d, .int 0 0, .int es.size 0, .int ep 0] }).IsValIter (h2.push { cls := .type "dict_values", data := .fields #[.ref d] }).objs.size d 0 es.size ep := ⟨_, Heap.get?_push_size _ rfl, rfl, rfl⟩
  generalize hH1 : h2.push { cls := .type "dict_values", data := .fields #[.ref d] } = H1 at *
  generalize hH2 : H1.push { cls := .type "dict_valueiterator", data := .fields #[.ref d, .int 0 0, .int es.size 0, .int ep 0] } = H2 at *
  have ltI : ∀ b o, h2.get? b = some o → b ≠ H1.objs.size := fun b o e => Nat.ne_of_lt (Nat.lt_of_lt_of_le (Heap.lt_size e) hle)
  refine codeAny_forLoop_any
    (fun n s' => ∃ h9 tk m' i u, s' = { s with heap := h9, toks := tk } ∧ h9.IsValIter H1.objs.size d i es.size ep ∧ h9.Ns L' m' ∧ m' nNc = some (.int (sumD (xs.take i)) u) ∧ (∀ b o, b ≠ L' → h2.get? b = some o → h9.get? b = some o) ∧ i ≤ es.size ∧ n = es.size + 1 - i)
    ?_ (es.size + 1) ⟨H2, _, _, 0, _, rfl, hit0, hn2.at fun o e => up2 _ o e, by exact if_pos rfl, fun b o _ e => up2 b o e, Nat.zero_le _, rfl⟩
  rintro n s' ⟨h9, tk, m', i, u, rfl, hit, hn9, hnc, hk9, hi, rfl⟩
  by_cases hlt : i < es.size
  · refine valsNext hit (hE2.at fun o e => hk9 _ o (NF d od hod) e) hlt fun h10 hit10 hs10 => ?_
    replace hs10 : Heap.SameBut H1.objs.size h9 h10 := hs10
    obtain ⟨z, hz1, hz2⟩ := hent i hlt
    obtain ⟨c, t, hct⟩ := hint z (List.mem_of_getElem? hz1)
    rw [hz2, hct]
    refine wpAny_of_eq (a := ()) rfl ?_
    refine wpAny_assign_Name (wpAny_storeName_local (by rfl) (hn9.sameBut hs10 (Ne.symm hIL)) (fun h11 hn11 hs11 => ?_) (by rfl))
    replace hs11 : Heap.SameBut L' h10 h11 := hs11
    refine wpAny_execs_cons (wpAny_AugAssign_Name (wpAny_loadName_local rfl (by rfl) hn11 (by exact hnc) (wpAny_Name (wpAny_loadName_local rfl (by rfl) hn11 (by exact if_pos rfl) (wpAny_iadd_int (wpAny_storeName_local (by rfl) hn11 (fun h12 hn12 hs12 => ?_) (by rfl)))) (by decide))))
    replace hs12 : Heap.SameBut L' h11 h12 := hs12
    refine wpAny_execs_nil ⟨es.size + 1 - (i + 1), by omega, h12, _, _, i + 1, _, rfl, (hit10.extBut hs11.extBut hIL).extBut hs12.extBut hIL, hn12, by rw [sumD_take hz1 hct]; exact if_pos rfl, fun b o hL e => hs12.extBut b o hL (hs11.extBut b o hL (hs10.extBut b o (ltI b o e) (hk9 b o hL e))), hlt, rfl⟩
  · have hie : i = es.size := by omega
    subst hie
    refine valsEnd rfl hit (hE2.at fun o e => hk9 _ o (NF d od hod) e) fun h10 hx10 => wpAny_execs_nil ?_
    replace hx10 : Heap.ExtBut H1.objs.size h9 h10 := hx10
    have hn10 := hn9.extBut hx10 (Ne.symm hIL)
    have hk10 : ∀ b o, b ≠ L' → h2.get? b = some o → h10.get? b = some o := fun b o hL e => hx10 b o (ltI b o e) (hk9 b o hL e)
    refine wpAny_execs_cons (wpAny_Return_some (wpAny_Name (wpAny_loadName_local rfl (by rfl) hn10 hnc ?_) (by decide)))
    show LeaveK h₀ L m g' _ _ _
    have k4 : ∀ b o, s.heap.get? b = some o → h10.get? b = some o := fun b o e => hk10 b o (NF b o e) (hs2.extBut b o (NF b o e) (KA b o e))
    have kG : ∀ b o, g'.get? b = some o → h10.get? b = some o := fun b o e => by
      have hbL : b ≠ L' := Nat.ne_of_lt (Nat.lt_of_lt_of_le (Heap.lt_size e) F'.above)
      exact hk10 b o hbL (hs2.extBut b o hbL (F'.keep b o e))
    have F4 : Fr g' L' h10 m' := ⟨hn10, kG, F'.above⟩
    have N4 : News g' L' h10 [(y, oy)] := List.forall_mem_cons.mpr ⟨⟨k4 _ _ (N _ (List.Mem.head _)).1, (N' _ (List.Mem.head _)).2⟩, fun _ hp => nomatch hp⟩
    refine leaveK_ F4 N4 fun F5 N5 => ?_
    rw [hsz, List.take_length]
    exact hQ h10 _ _ k4 F5
end Mine
namespace Mine
noncomputable abbrev isS (x : Str) (v : Value) : Prop := ∃ t, v = .str x t
noncomputable abbrev isI (c : Int) (v : Value) : Prop := ∃ t, v = .int c t
/-- an expression's value, with nothing but the tokens touched -/
noncomputable def Ev (M : Model) (A : Around) (e : Expr) (env : Env) (s : Shared) (P : Value → Prop) : Prop :=
  ∀ (tk : Nat) (Q E : Value → Shared → Prop), (∀ v tk', P v → Q v { s with toks := tk' }) → wpAny M A (eval e env) Q E { s with toks := tk }
section
variable {prog : Program} {w : World} {A : Around} {env : Env} {s : Shared} {m : Str → Option Value} {x y : Str} {a b : Int} {e l r o : Expr} {p pos ap : Pos} {k : Nat}
theorem Ev.use {P : Value → Prop} {Q E : Value → Shared → Prop} (h : Ev (model prog w) A e env s P) (hq : ∀ v tk', P v → Q v { s with toks := tk' }) : wpAny (model prog w) A (eval e env) Q E s := h s.toks Q E hq
theorem Ev.name {v : Value} {P : Value → Prop} (hk : env.scope.kind = .function) (hx : env.kindOf x = some .local) (hd : (x == ("__debug__" : Str)) = false) (hn : s.heap.Ns env.locals m) (hm : m x = some v) (hP : P v) : Ev (model prog w) A (.Name x p) env s P :=
  fun tk Q E hq => wpAny_Name (wpAny_loadName_local (s := { s with toks := tk }) hk hx hn hm (hq v tk hP)) hd
theorem Ev.str : Ev (model prog w) A (.Constant (.str x) k p) env s (isS x) := fun tk Q E hq => wpAny_Constant_str (hq _ _ ⟨_, rfl⟩)
theorem Ev.int : Ev (model prog w) A (.Constant (.int a) k p) env s (isI a) := fun tk Q E hq => wpAny_Constant_int (hq _ _ ⟨_, rfl⟩)
theorem Ev.cat (hl : Ev (model prog w) A l env s (isS x)) (hr : Ev (model prog w) A r env s (isS y)) (hz : x.length + y.length ≤ sizeLine) : Ev (model prog w) A (.BinOp l .Add r p) env s (isS (x ++ y)) := by
  intro tk Q E hq
  refine wpAny_BinOp (hl tk _ _ fun v tk1 hv => hr tk1 _ _ fun u tk2 hu => ?_)
  obtain ⟨t, rfl⟩ := hv
  obtain ⟨t', rfl⟩ := hu
  exact add_str (fun t'' tk3 => hq _ _ ⟨_, rfl⟩) hz
theorem Ev.add (hl : Ev (model prog w) A l env s (isI a)) (hr : Ev (model prog w) A r env s (isI b)) : Ev (model prog w) A (.BinOp l .Add r p) env s (isI (a + b)) := by
  intro tk Q E hq
  refine wpAny_BinOp (hl tk _ _ fun v tk1 hv => hr tk1 _ _ fun u tk2 hu => ?_)
  obtain ⟨t, rfl⟩ := hv
  obtain ⟨t', rfl⟩ := hu
  exact wpAny_add_int (hq _ _ ⟨_, rfl⟩)
theorem Ev.sub (hl : Ev (model prog w) A l env s (isI a)) (hr : Ev (model prog w) A r env s (isI b)) : Ev (model prog w) A (.BinOp l .Sub r p) env s (isI (a - b)) := by
  intro tk Q E hq
  refine wpAny_BinOp (hl tk _ _ fun v tk1 hv => hr tk1 _ _ fun u tk2 hu => ?_)
  obtain ⟨t, rfl⟩ := hv
  obtain ⟨t', rfl⟩ := hu
  exact PySem.P.sub_int (hq _ _ ⟨_, rfl⟩)
theorem Ev.count (hbase : attributeBase o "count" env (eval o env) = eval o env) (hs : starEach [e] env = [(false, eval e env)]) (hline : (ap.endLine == pos.line) = true)
    (ho : Ev (model prog w) A o env s (isS x)) (he : Ev (model prog w) A e env s (isS y)) : Ev (model prog w) A (.Call (.Attribute o "count" ap) [e] [] pos) env s (isI (Txt.count x y)) := by
  intro tk Q E hq
  refine Call_method1 hbase hs hline (ho tk _ _ fun v tk1 hv => ?_)
  obtain ⟨t, rfl⟩ := hv
  refine SB.count (he tk1 _ _ fun u tk2 hu => ?_)
  obtain ⟨t', rfl⟩ := hu
  exact ⟨y, t', rfl, hq _ _ ⟨_, rfl⟩⟩
theorem Ev.head {W : Addr} {items : Array Value} (ho : Ev (model prog w) A o env s (· = .ref W)) (hl : s.heap.IsList W items) (hx : items[0]? = some (.str x k)) (ht : ∀ v r, letTemporaryGo o v r = pure ()) {k0 : Nat} {p0 : Pos} :
    Ev (model prog w) A (.Subscript o (.Constant (.int 0) k0 p0) p) env s (isS x) := by
  intro tk Q E hq
  refine Subscript_Constant (ho tk _ _ fun v tk1 hv => wpAny_Constant_int ?_) ht
  subst hv
  exact ⟨"list", _, F.slot_list_getitem.lookup, hl.typeIs, wpAny_getItem_list (s := { s with toks := tk1 + 1 }) (k := 0) hl (by decide) (by decide) hx (hq _ _ ⟨_, rfl⟩)⟩
theorem Ev.ne {Q : Bool → Shared → Prop} {E : Value → Shared → Prop} {whole : Sem Value} (hl : Ev (model prog w) A l env s (isI a)) (hr : Ev (model prog w) A r env s (isI b)) (hm : behindInMarks .NotEq r = false) (h : ∀ tk, Q (a != b) { s with toks := tk }) :
    wpAny (model prog w) A (isTrue (.Compare l [.NotEq] [r] p) env whole) Q E s := by
  refine wpAny_isTrue_Compare1 (hl s.toks _ _ fun v tk1 hv => hr tk1 _ _ fun u tk2 hu => ?_) hm
  obtain ⟨t, rfl⟩ := hv
  obtain ⟨t', rfl⟩ := hu
  exact PyProof.Rows.ne_int (wpAny_truthy_bool (h _))
end
section
variable {prog : Program} {w : World} {A : Around} {s : Shared} {env : Env} {xv : Str} {px : Pos} {body : List Stmt} {R : Result → Shared → Prop} {m : Str → Option Value} {I ax : Addr} {items : List Value}
/-- a loop over a list, turn by turn -/
theorem listLoop (J : Nat → Shared → (Str → Option Value) → Prop) (hh : A.handled = none) (hxv : env.kindOf xv = some .local) (hk : env.scope.kind = .function) (hIL : I ≠ env.locals) (haL : ax ≠ env.locals) (haI : ax ≠ I)
    (hfr : ∀ i s₁ h' tk m₁ u, J i s₁ m₁ → (∀ b o, b ≠ I → b ≠ env.locals → s₁.heap.get? b = some o → h'.get? b = some o) → J i { s₁ with heap := h', toks := tk } (fun y => if y = xv then u else m₁ y))
    (step : ∀ i v m₁ s₁ E', items[i]? = some v → J i s₁ m₁ → s₁.heap.Ns env.locals m₁ → m₁ xv = some v → (∃ o, s₁.heap.get? I = some o) →
      wpAny (model prog w) A (execs body env) (fun f s₂ => f = .next ∧ ∃ m₂, s₂.heap.Ns env.locals m₂ ∧ J (i + 1) s₂ m₂ ∧ (∀ b, b = I ∨ b = ax → ∀ o, s₁.heap.get? b = some o → s₂.heap.get? b = some o)) E' s₁)
    (hit : s.heap.IsListIter I ax 0) (hl : s.heap.IsList ax items.toArray) (hn : s.heap.Ns env.locals m) (h0 : J 0 s m)
    (done : ∀ s' m', s'.heap.Ns env.locals m' → J items.length s' m' → R (.ok .next) s')
    (hfr0 : ∀ i s₁ h' m₁, J i s₁ m₁ → (∀ b o, b ≠ I → s₁.heap.get? b = some o → h'.get? b = some o) → J i { s₁ with heap := h' } m₁) :
    codeAny (model prog w) A (.forLoop (.Name xv px) (.ref I) body [] env) R s := by
  have hp : (env.scope.kind == .class || (env.scope.kind == .module && env.locals != env.globals)) = false := by rw [hk]; rfl
  refine codeAny_forLoop_any (fun n s' => ∃ m' i, s'.heap.IsListIter I ax i ∧ s'.heap.IsList ax items.toArray ∧ s'.heap.Ns env.locals m' ∧ J i s' m' ∧ i ≤ items.length ∧ n = items.length + 1 - i)
    ?_ (items.length + 1) ⟨m, 0, hit, hl, hn, h0, Nat.zero_le _, rfl⟩
  rintro n s' ⟨m', i, hit', hl', hn', hJ, hi, rfl⟩
  cases hv : items[i]? with
  | none =>
    have hie : i = items.length := Nat.le_antisymm hi (by simpa using hv)
    subst hie
    refine wpAny_pyNext_list_end hh hit' hl' (by simpa using hv) fun h₁ he₁ => wpAny_execs_nil ?_
    exact done _ m' (hn'.extBut he₁ (Ne.symm hIL)) (hfr0 _ s' h₁ m' hJ he₁)
  | some v =>
    have hlt : i < items.length := (List.getElem?_eq_some_iff.mp hv).1
    refine wpAny_pyNext_list_item hit' hl' (by simpa using hv) fun h₁ hit₁ hs₁ => ?_
    replace hs₁ : Heap.SameBut I s'.heap h₁ := hs₁
    refine wpAny_of_eq (a := ()) rfl ?_
    refine wpAny_assign_Name (wpAny_storeName_local hxv (hn'.sameBut hs₁ (Ne.symm hIL)) (fun h₂ hn₂ hs₂ => ?_) hp)
    replace hs₂ : Heap.SameBut env.locals h₁ h₂ := hs₂
    have hJ₂ := hfr i s' h₂ (s'.toks + 1) m' (some v) hJ fun b o hbI hbL e => hs₂.extBut b o hbL (hs₁.extBut b o hbI e)
    refine wpAny_mono (step i v _ _ _ hv hJ₂ hn₂ (by exact if_pos rfl) (let ⟨o, ho, _⟩ := hit₁.extBut hs₂.extBut hIL; ⟨o, ho⟩)) (fun f s₃ h₃ => ?_) fun _ _ e => e
    obtain ⟨rfl, m₃, hn₃, hJ₃, hk₃⟩ := h₃
    refine ⟨items.length + 1 - (i + 1), by omega, m₃, i + 1, ?_, ?_, hn₃, hJ₃, hlt, rfl⟩
    · exact (hit₁.extBut hs₂.extBut hIL).at fun o e => hk₃ I (.inl rfl) o e
    · exact (hl'.at fun o e => hs₂.extBut _ o haL (hs₁.extBut _ o haI e)).at fun o e => hk₃ ax (.inr rfl) o e
end
end Mine
namespace Mine
noncomputable abbrev okW (x : Str) : Bool := decide (chkR x.cps.toList 0 = some 0)
noncomputable def wordsL (n : Nat) : List Str := (rowsL n n).filter okW
noncomputable abbrev sOC : Str := Str.ofString "()"
noncomputable abbrev sCO : Str := Str.ofString ")("
noncomputable abbrev sO : Str := Str.ofString "("
noncomputable abbrev sC : Str := Str.ofString ")"
noncomputable abbrev sTops : Str := Str.ofString "tops"
noncomputable abbrev sWord : Str := Str.ofString "word"
noncomputable abbrev keyT (t : Int) : KT := [.inl sTops, .inr t, .inl sWord]
/-- a text that the checker's contract takes -/
noncomputable def fitW (x : Str) : Bool := (Builtin.Str.occurrences x (Str.ofString "\"") 0 x.length 1).isEmpty && (x.cps.all (· < 128) && (x.cps.all (· != 92) && decide (x.length ≤ 20)))
theorem rows_fit : ∀ n : Nat, n ≤ 4 → ∀ x ∈ rowsL n n, fitW x = true := by
  have key : (List.range 5).all (fun n => (rowsL n n).all fitW) = true := by decide +kernel
  intro n hn x hx
  exact List.all_eq_true.mp (List.all_eq_true.mp key n (List.mem_range.mpr (by omega))) x hx
noncomputable def firstW (n : Nat) : Str := (wordsL n).headD Str.empty
/-- what the law asks of a word -/
noncomputable def wordOK (x0 x : Str) : Bool :=
  decide (Txt.count x sCO = Txt.count x sOC - 1) && (decide (Txt.count (sO ++ x ++ sC) sOC = Txt.count x sOC) && (fitW (sO ++ x ++ sC) && (okW (sO ++ x ++ sC) && (fitW (x ++ x0) && (okW (x ++ x0) && decide (Txt.count (x ++ x0) sOC = Txt.count x sOC + Txt.count x0 sOC))))))
theorem words_ok : ∀ n : Nat, 1 ≤ n → n ≤ 4 → ∀ x ∈ wordsL n, wordOK (firstW n) x = true := by
  have key : (List.range 5).all (fun n => n == 0 || (wordsL n).all (wordOK (firstW n))) = true := by decide +kernel
  intro n h1 hn x hx
  have := List.all_eq_true.mp key n (List.mem_range.mpr (by omega))
  rw [Bool.or_eq_true] at this
  rcases this with h | h
  · have := eq_of_beq h; omega
  · exact List.all_eq_true.mp h x hx
theorem words_head : ∀ n : Nat, 1 ≤ n → n ≤ 4 → (wordsL n)[0]? = some (firstW n) := by
  have key : (List.range 5).all (fun n => n == 0 || (wordsL n)[0]? == some (firstW n)) = true := by decide +kernel
  intro n h1 hn
  have := List.all_eq_true.mp key n (List.mem_range.mpr (by omega))
  rw [Bool.or_eq_true] at this
  rcases this with h | h
  · have := eq_of_beq h; omega
  · exact eq_of_beq h
noncomputable def addD (D : List (Int × Int)) (t : Int) : List (Int × Int) := if D.any (fun p => decide (p.1 = t)) then D.map (fun p => if p.1 = t then (p.1, p.2 + 1) else p) else D ++ [(t, 1)]
noncomputable def topsD (l : List Str) : List (Int × Int) := l.foldl (fun D x => addD D (Txt.count x sOC)) []
theorem topsD_snoc (l : List Str) (x : Str) : topsD (l ++ [x]) = addD (topsD l) (Txt.count x sOC) := by simp [topsD]
theorem topsD_len : ∀ n : Nat, 1 ≤ n → n ≤ 4 → (wordsL n).length ≤ 20 := by
  have key : (List.range 5).all (fun n => decide ((wordsL n).length ≤ 20)) = true := by decide +kernel
  intro n h1 hn
  exact of_decide_eq_true (List.all_eq_true.mp key n (List.mem_range.mpr (by omega)))
theorem addD_len (D : List (Int × Int)) (t : Int) : (addD D t).length ≤ D.length + 1 := by
  unfold addD; split <;> simp
theorem topsD_length (l : List Str) : (topsD l).length ≤ l.length := by
  have : ∀ (l : List Str) (D : List (Int × Int)), (l.foldl (fun D x => addD D (Txt.count x sOC)) D).length ≤ D.length + l.length := by
    intro l
    induction l with
    | nil => intro D; simp
    | cons x r ih =>
      intro D
      have := ih (addD D (Txt.count x sOC))
      have := addD_len D (Txt.count x sOC)
      simp only [List.foldl_cons, List.length_cons]
      omega
  simpa [topsD] using this l []
inductive DS : List (KT × Addr × Value) → List (Int × Int) → Prop
  | nil : DS [] []
  | cons {t c : Int} {a : Addr} {u : Tok} {xs : List (KT × Addr × Value)} {D : List (Int × Int)} : DS xs D → DS ((keyT t, a, .int c u) :: xs) ((t, c) :: D)
theorem DS.length {xs : List (KT × Addr × Value)} {D : List (Int × Int)} (h : DS xs D) : xs.length = D.length := by
  induction h with
  | nil => rfl
  | cons _ ih => simp [ih]
theorem DS.ints {xs : List (KT × Addr × Value)} {D : List (Int × Int)} (h : DS xs D) : ∀ z ∈ xs, ∃ c t, z.2.2 = .int c t := by
  induction h with
  | nil => intro z hz; cases hz
  | cons _ ih =>
    intro z hz
    cases hz with
    | head => exact ⟨_, _, rfl⟩
    | tail _ hz => exact ih z hz
theorem DS.append {xs ys : List (KT × Addr × Value)} {D D' : List (Int × Int)} (h : DS xs D) (k : DS ys D') : DS (xs ++ ys) (D ++ D') := by
  induction h with
  | nil => exact k
  | cons _ ih => exact .cons ih
theorem keyT_inj {t t' : Int} : keyT t = keyT t' ↔ t = t' := by
  constructor
  · intro h; simpa [keyT] using h
  · rintro rfl; rfl
theorem DS.any {xs : List (KT × Addr × Value)} {D : List (Int × Int)} (h : DS xs D) (t : Int) : D.any (fun p => decide (p.1 = t)) = (atKey xs (keyT t)).isSome := by
  induction h with
  | nil => rfl
  | @cons t' c a u xs D _ ih =>
    unfold atKey at ih ⊢
    by_cases e : t' = t
    · subst e; simp
    · have e2 : ¬ keyT t' = keyT t := fun q => e (keyT_inj.mp q)
      simp only [List.any_cons, List.find?_cons, decide_eq_false e, decide_eq_false e2, Bool.false_or]
      exact ih
theorem DS.put {xs : List (KT × Addr × Value)} {D : List (Int × Int)} {t c : Int} {tv : Tok} (h : DS xs D) (hv : ∀ z ∈ xs, z.1 = keyT t → ∃ t0, z.2.2 = .int c t0) :
    DS (xs.map (putAt (keyT t) (.int (c + 1) tv))) (D.map (fun p => if p.1 = t then (p.1, p.2 + 1) else p)) := by
  induction h with
  | nil => exact .nil
  | @cons t' c' a u xs D _ ih =>
    have ih' := ih fun z hz => hv z (List.Mem.tail _ hz)
    by_cases e : t' = t
    · subst e
      obtain ⟨t0, h0⟩ := hv _ (List.Mem.head _) rfl
      have h0' : c' = c := by injection h0
      subst h0'
      simp only [List.map_cons, putAt, if_true]
      exact .cons ih'
    · have e2 : ¬ keyT t' = keyT t := fun q => e (keyT_inj.mp q)
      simp only [List.map_cons, putAt, if_neg e, if_neg e2]
      exact .cons ih'
theorem DS.stored {xs : List (KT × Addr × Value)} {D : List (Int × Int)} {t : Int} {a1 : Addr} {v' : Value} (h : DS xs D) (hn : (xs.map (·.1)).Nodup) (hv : AddV xs (keyT t) 1 v') : DS (storedH xs (keyT t) a1 v') (addD D t) := by
  cases hat : atKey xs (keyT t) with
  | none =>
    obtain ⟨t', rfl⟩ := hv.2 hat
    rw [storedH_new hat, addD, h.any t, hat]
    exact h.append (.cons .nil)
  | some q =>
    obtain ⟨c, t0, t', hc, rfl⟩ := hv.1 q hat
    rw [storedH_old hat, addD, h.any t, hat]
    refine h.put fun z hz hk => ?_
    obtain ⟨i, hi⟩ := List.mem_iff_getElem?.mp hz
    obtain ⟨k, p⟩ := z
    subst hk
    have := atKey_of_get hn hi
    rw [hat] at this
    cases this
    exact ⟨t0, hc⟩
theorem mem_stored_addr {xs : List (KT × Addr × Value)} {k : KT} {a1 : Addr} {v : Value} {P : Addr → Prop} (h : ∀ z ∈ xs, P z.2.1) (h1 : P a1) : ∀ z ∈ storedH xs k a1 v, P z.2.1 := by
  intro z hz
  rcases mem_storedH hz with ⟨z', hz', _, e2⟩ | ⟨_, e2⟩
  · rw [e2]; exact h z' hz'
  · rw [e2]; exact h1
end Mine
namespace Mine
/-- a plain tuple's object -/
noncomputable def PK (h : Heap) (a : Addr) : Prop := ∃ items n, IsT h a items n
theorem PK.keep {h h' : Heap} {a : Addr} (x : PK h a) (e : ∀ o, h.get? a = some o → h'.get? a = some o) : PK h' a := let ⟨items, n, i⟩ := x; ⟨items, n, e _ i⟩
section
variable {prog : Program} {w : World} {A : Around} {env : Env} {s : Shared} {e : Expr} {t : Int} {p1 p2 p3 p4 pos : Pos} {k k1 k2 k3 : Nat} {E : Value → Shared → Prop}
/-- the tuple ("tops", e, "word") -/
theorem key3 {Q : Value → Shared → Prop} (hs : starEach [.Constant (.str sTops) k1 p1, e, .Constant (.str sWord) k2 p2] env = [(false, eval (.Constant (.str sTops) k1 p1) env), (false, eval e env), (false, eval (.Constant (.str sWord) k2 p2) env)])
    (he : Ev (model prog w) A e env s (isI t))
    (hQ : ∀ (T1 : Nat) h' tk, (∀ b o, s.heap.get? b = some o → h'.get? b = some o) → s.heap.objs.size ≤ T1 → IsTupleKey (mixKind prog w) h' (keyT t) T1 → PK h' T1 → Q (.ref T1) { s with heap := h', toks := tk }) :
    wpAny (model prog w) A (eval (.Tuple [.Constant (.str sTops) k1 p1, e, .Constant (.str sWord) k2 p2] k pos) env) Q E s := by
  refine wpAny_Tuple ?_
  rw [hs]
  show wpAny (model prog w) A (spliced [(false, eval (.Constant (.str sTops) k1 p1) env), (false, eval e env), (false, eval (.Constant (.str sWord) k2 p2) env)]) _ E s
  refine Calls.spliced_cons (wpAny_Constant_str (Calls.spliced_cons (he (s.toks + 1) _ _ fun v tk hv => ?_)))
  obtain ⟨u, rfl⟩ := hv
  refine Calls.spliced_cons (wpAny_Constant_str (Calls.spliced_nil ⟨(show (3 : Nat) ≤ sizeLine from by decide), ?_⟩))
  refine hQ s.heap.objs.size _ _ (fun b o e => Heap.get?_push_of_some _ e) (Nat.le_refl _) ⟨_, _, _, Heap.get?_push_size _ rfl, rfl, rfl, ?_⟩ ⟨_, _, Heap.get?_push_size _ rfl⟩
  exact .cons (by simp [mixKind, mixIs, Value.isStrOf]) (.cons (by simp [mixKind, mixIs, Value.isInt]) (.cons (by simp [mixKind, mixIs, Value.isStrOf]) .nil))
/-- the dict {("tops", e, "word"): 1} -/
theorem dict1 {Q : Value → Shared → Prop} (hs : starEach [.Constant (.str sTops) k1 p1, e, .Constant (.str sWord) k2 p2] env = [(false, eval (.Constant (.str sTops) k1 p1) env), (false, eval e env), (false, eval (.Constant (.str sWord) k2 p2) env)])
    (hu : A.units < cLine) (he : ∀ h', (∀ b o, s.heap.get? b = some o → h'.get? b = some o) → Ev (model prog w) A e env { s with heap := h' } (isI t))
    (hQ : ∀ (S T1 : Nat) h' tk u, (∀ b o, s.heap.get? b = some o → h'.get? b = some o) → s.heap.objs.size ≤ S → s.heap.objs.size ≤ T1 → h'.DictOfH (TK prog w) S [(keyT t, T1, .int 1 u)] → PK h' T1 → Q (.ref S) { s with heap := h', toks := tk }) :
    wpAny (model prog w) A (eval (.Dict [some (.Tuple [.Constant (.str sTops) k1 p1, e, .Constant (.str sWord) k2 p2] k pos)] [.Constant (.int 1) k3 p3] p4) env) Q E s := by
  have up : ∀ b o, s.heap.get? b = some o → (s.heap.push { cls := .type "dict", data := .dict #[] }).get? b = some o := fun b o e => Heap.get?_push_of_some _ e
  refine wpAny_Dict_any rfl rfl (by simp) (show (1 : Nat) ≤ 15 from by decide) (pairTrees_cons_walk (key3 hs (he _ up) fun T1 h' tk hk hT hK hP => wpAny_Constant_int (pairTrees_nil_walk ?_)))
  have hz : (s.heap.push { cls := .type "dict", data := .dict #[] }).objs.size = s.heap.objs.size + 1 := Heap.size_push ..
  have hD : h'.DictOfH (TK prog w) s.heap.objs.size [] := dh_keep (Heap.DictOfH.new s.heap) fun b o hb e => hk b o e
  unfold storeAll
  rw [List.forIn_cons]
  refine wpAny_bind (wpAny_bind (wpAny_dictSet_heap (knd := TK prog w) (k := keyT t) hu hK hD (fun h2 hd2 hs2 => wpAny_pure ?_) (by simp)))
  replace hs2 : Heap.SameBut s.heap.objs.size h' h2 := hs2
  show wpAny (model prog w) A (forIn ([] : List (Value × Value)) PUnit.unit _) _ _ _
  rw [List.forIn_nil]
  refine wpAny_pure (hQ s.heap.objs.size T1 h2 _ tk (fun b o e => hs2.extBut b o (Nat.ne_of_lt (Heap.lt_size e)) (hk b o (up b o e))) (Nat.le_refl _) ?_ ?_ ?_)
  · refine Nat.le_trans (Nat.le_succ _) ?_
    have : (s.heap.push { cls := .type "dict", data := .dict #[] }).objs.size ≤ T1 := hT
    rw [hz] at this
    exact this
  · exact hd2
  · exact hP.keep fun o e => hs2.extBut _ o (Nat.ne_of_gt (Nat.lt_of_lt_of_le (by rw [hz]; exact Nat.lt_succ_self _) hT)) e
theorem empty_dict {K : Type} [DecidableEq K] {knd : KeyKind prog w K} {o : Obj} {d : Addr} {h : Heap} (ho : h.get? d = some o) (x : o.IsDictOf knd []) : h.DictOfH (TK prog w) d [] := by
  obtain ⟨es, ep, hc, hd, hk, hp, hn⟩ := x
  have : es.toList = [] := by
    generalize es.toList = l at hp
    cases hp
    rfl
  exact ⟨o, es, ep, ho, hc, hd, by rw [this]; rfl, fun z hz => (nomatch hz), List.nodup_nil⟩
end
/-- an address that the run has made, and that is neither the frame nor the iterator -/
noncomputable def NewA (base : Heap) (L I : Addr) (b : Addr) : Prop := base.get? b = none ∧ b ≠ L ∧ b ≠ I
theorem newA_fresh {base h : Heap} {L I b : Addr} {m : Str → Option Value} (F : Fr base L h m) (hI : ∃ o, h.get? I = some o) (hb : h.get? b = none) : NewA base L I b := by
  refine ⟨?_, ?_, ?_⟩
  · cases e : base.get? b with
    | none => rfl
    | some o => rw [F.keep _ _ e] at hb; cases hb
  · rintro rfl
    obtain ⟨o, _, _, ho, _⟩ := F.ns
    rw [ho] at hb; cases hb
  · rintro rfl
    obtain ⟨o, ho⟩ := hI
    rw [ho] at hb; cases hb
theorem none_of_le {h : Heap} {b : Addr} (e : h.objs.size ≤ b) : h.get? b = none := by
  cases q : h.get? b with
  | none => rfl
  | some o => exact absurd (Heap.lt_size q) (Nat.not_lt.mpr e)
theorem not_sys' {g h : Heap} {L D : Nat} {m' : Str → Option Value} {p : Program} {loose : List Str} {mean : ExcName → Option Value} {mg mb : Str → Option Value} (T : Top p loose mean mg mb g) (F : Fr g L h m') (hD : h.objs.size ≤ D) : ((D : Addr) == sysModules) = false :=
  not_sys T F (Nat.lt_of_lt_of_le F.ns.lt hD)
end Mine
namespace Mine
variable {prog : Program} {w : World} {p : Program} {loose : List Str} {mean : ExcName → Option Value} {mg mb : Str → Option Value} {dp un : Nat} {gd : Option (List Code)} {cn : Str} {cs : Scope} {a : Addr} {ccd : Value} {cl : List (Str × Addr)} {outer : List Env} {A₀ : Around} {base h₀ : Heap} {L : Addr} {m : Str → Option Value} {s : Shared} {Q : Value → Shared → Prop} {E : Value → Shared → Prop} {news : List (Addr × Obj)}
inductive AreI : List Value → List Int → Prop
  | nil : AreI [] []
  | cons {x : Int} {t : Tok} {vs : List Value} {xs : List Int} : AreI vs xs → AreI (.int x t :: vs) (x :: xs)
noncomputable def AllIn (full dl : List (Addr × Obj)) : Prop := ∀ p ∈ dl, p ∈ full
theorem AllIn.sub {full dl : List (Addr × Obj)} (h : AllIn full dl) : ∀ p ∈ dl, p ∈ full := h
theorem Off.all {a b : Nat} : ∀ {l : List (Addr × Obj)}, (∀ p ∈ l, p.1 ≠ a ∧ p.1 ≠ b) → Off a b l l := by
  intro l
  induction l with
  | nil => intro _; exact .nil
  | cons q r ih => intro h; exact .keep (h q (List.Mem.head _)).1 (h q (List.Mem.head _)).2 (ih fun p hp => h p (List.Mem.tail _ hp))
/-- what a ledger's part says of a dict -/
noncomputable def Knows (prog : Program) (w : World) (dl : List (Addr × Obj)) (d : Addr) (xs : List (KT × Addr × Value)) : Prop := ∀ h : Heap, (∀ p ∈ dl, h.get? p.1 = some p.2) → h.DictOfH (TK prog w) d xs ∧ ∀ z ∈ xs, PK h z.2.1
theorem Knows.at {dl full : List (Addr × Obj)} {d : Addr} {xs : List (KT × Addr × Value)} {h : Heap} (k : Knows prog w dl d xs) (N : News h₀ L h full) (a : AllIn full dl) : h.DictOfH (TK prog w) d xs ∧ ∀ z ∈ xs, PK h z.2.1 := k h fun p hp => (N p (a.sub p hp)).1
noncomputable def wayV (z b : Int) : Option Int := (waysT.find? fun p => decide (p.1 = z) && decide (p.2.1 = b)).map (·.2.2)
theorem cntK {full dl : List (Addr × Obj)} {q : Addr × Obj} {xs : List (KT × Addr × Value)} {d : Nat} {r : Int} (hq1 : q ∈ full) (hK : Knows prog w dl d xs) (hsub : AllIn full dl) (hr : sumD xs = r) (hdS : ((d : Addr) == sysModules) = false) (hint : ∀ z ∈ xs, ∃ c t, z.2.2 = .int c t)
  (B : Below A₀ base outer h₀) (F : Fr h₀ L s.heap m) (X : (Mine.hd.heap_39 w.params).In h₀) (N : News h₀ L s.heap full) (T : Top p loose mean mg mb h₀) (hk : cs.kind = .function) (hd : dp + 30 < recursionLimit)
  (hQ : ∀ (h' : Heap) (tk' : Nat) (u : Tok), Fr h₀ L h' m → News h₀ L h' full → Q (.int r u) { s with heap := h', toks := tk' }) :
  wpAny (model prog w) (ktrTop dp un gd cn cs L a ccd cl outer) (call (.ref 91) [.ref d]) Q E s := by
  subst hr
  obtain ⟨y, oy, hy, hmax⟩ := has_max hq1
  refine c_cnt B F X (y := y) (oy := oy) (cb_drop N (List.forall_mem_cons.mpr ⟨hy, fun _ hp => nomatch hp⟩)) T hk hd (hK.at N hsub).1 hdS hint fun h' tk' u G F' => hQ h' tk' u F' (N.grown G)
section
variable {A : Around} {env : Env} {e : Expr} {t c : Int} {p1 p2 p3 p4 p5 ap pos : Pos} {k k1 k2 k3 : Nat}
theorem getK {full dl : List (Addr × Obj)} {xs : List (KT × Addr × Value)} {d : Nat} {u0 : Tok} {q : Addr × Value} (hK : Knows prog w dl d xs) (hsub : AllIn full dl) (hdS : ((d : Addr) == sysModules) = false)
    (F : Fr h₀ L s.heap m) (N : News h₀ L s.heap full) (hL : env.locals = L) (hk : env.scope.kind = .function) (hx : env.kindOf nCalls = some .local) (hcalls : m nCalls = some (.ref d)) (hu : A.units + 1 < cLine)
    (hbase : attributeBase (.Name nCalls p3) "get" env (eval (.Name nCalls p3) env) = eval (.Name nCalls p3) env) (hline : (ap.endLine == pos.line) = true)
    (hs2 : starEach [.Tuple [.Constant (.str sTops) k1 p1, e, .Constant (.str sWord) k2 p2] k p4, .Constant (.int 0) k3 p5] env = [(false, eval (.Tuple [.Constant (.str sTops) k1 p1, e, .Constant (.str sWord) k2 p2] k p4) env), (false, eval (.Constant (.int 0) k3 p5) env)])
    (hs : starEach [.Constant (.str sTops) k1 p1, e, .Constant (.str sWord) k2 p2] env = [(false, eval (.Constant (.str sTops) k1 p1) env), (false, eval e env), (false, eval (.Constant (.str sWord) k2 p2) env)])
    (he : Ev (model prog w) A e env s (isI t)) (hat : atKey xs (keyT t) = some q) (hq : q.2 = .int c u0)
    (hQ : ∀ (h' : Heap) (tk' : Nat) (u : Tok), Fr h₀ L h' m → News h₀ L h' full → Q (.int c u) { s with heap := h', toks := tk' }) :
    wpAny (model prog w) A (eval (.Call (.Attribute (.Name nCalls p3) "get" ap) [.Tuple [.Constant (.str sTops) k1 p1, e, .Constant (.str sWord) k2 p2] k p4, .Constant (.int 0) k3 p5] [] pos) env) Q E s := by
  have hD := (hK.at N hsub).1
  obtain ⟨o, es, ep, ho, hc, _⟩ := id hD
  refine wpAny_Call_method (T := "dict") (id := "dict.get") hbase (by rw [hs2]; rfl) hline PySem.F.plainAttrs_dict PySem.F.slot_dict_get PySem.F.type_dict_get (wpAny_Name (wpAny_loadName_local hk hx (by rw [hL]; exact F.ns) hcalls ⟨hD.typeIs, ?_, ?_⟩) (by decide))
  · intro a e
    cases e
    exact ⟨o, ho, hc.2.1⟩
  rw [hs2]
  show wpAny (model prog w) A (callWith pos (.builtin "dict.get") [.ref d] [(false, eval (.Tuple [.Constant (.str sTops) k1 p1, e, .Constant (.str sWord) k2 p2] k p4) env), (false, eval (.Constant (.int 0) k3 p5) env)] []) Q E s
  refine wpAny_dict_get2_heap (knd := TK prog w) hu hdS (key3 hs he fun T1 h' tk hk' hT hK' _ => wpAny_Constant_int ?_)
  refine ⟨T1, keyT t, xs, rfl, hK', dh_keep hD fun b o _ e => hk' b o e, ?_⟩
  rw [hat]
  show Q q.2 _
  rw [hq]
  exact hQ h' _ u0 (F.keeps hk') (N.grown hk')
end
theorem tuple_items {h : Heap} {t : Int} {a : Addr} {items : Array Value} {n : Nat} (x : IsTupleKey (mixKind prog w) h (keyT t) a) (i : IsT h a items n) : ∃ t1 t2 t3, items = #[.str sTops t1, .int t t2, .str sWord t3] := by
  obtain ⟨o, items', n', ho, _, hd, hi⟩ := x
  rw [show h.get? a = _ from i] at ho
  cases ho
  cases hd
  generalize hl : items.toList = l at hi
  cases hi with
  | cons h1 r =>
    cases r with
    | cons h2 r =>
      cases r with
      | cons h3 r =>
        cases r
        obtain ⟨t1, rfl⟩ := Value.isStrOf_shape h1
        obtain ⟨t2, rfl⟩ := Value.isInt_shape h2
        obtain ⟨t3, rfl⟩ := Value.isStrOf_shape h3
        exact ⟨t1, t2, t3, by rw [← Array.toList_inj, hl]⟩
theorem walksKeys {A : Around} (hh : A.handled = none) (I d : Addr) (hne : d ≠ I) (es : Array DictEntry) (ep : Nat) :
    Walks prog w A I [I, d] [I] es.size (fun i v => ∃ hi : i < es.size, v = es[i].key) (fun i h => h.IsKeyIter I d i es.size ep ∧ DictE h d es ep) where
  sub := fun b hb => by simp at hb; simp [hb]
  frame := fun _ _ _ st hk => ⟨st.1.at fun o e => hk I (by simp) o e, st.2.at fun o e => hk d (by simp) o e⟩
  item := fun i s Q E hi st hQ => by
    refine keysNext st.1 st.2 hi fun h' hit' hs' => ?_
    exact hQ _ h' s.toks ⟨hi, rfl⟩ ⟨hit', st.2.at fun o e => hs'.extBut d o hne e⟩ fun b o hb e => hs'.extBut b o (fun h => hb (by simp [h])) e
  done := fun s Q E st hQ => keysEnd hh st.1 st.2 fun h' he' => hQ h' s.toks fun b o hb e => he' b o (fun h => hb (by simp [h])) e
  self := fun _ _ _ _ st hQ => wpAny_pyIter_keyiter st.1 hQ
theorem areI_of : ∀ {xs : List (KT × Addr × Value)} {D : List (Int × Int)} {vs ys : List Value}, DS xs D → vs = xs.map (fun z => Value.ref z.2.1) → Paired (fun v y => ∃ u, ∀ z ∈ xs, v = .ref z.2.1 → ∀ t, z.1 = keyT t → y = .int t u) vs ys → AreI ys (D.map (·.1)) := by
  have key : ∀ {all xs : List (KT × Addr × Value)} {D : List (Int × Int)} {vs ys : List Value}, (∀ z ∈ xs, z ∈ all) → DS xs D → vs = xs.map (fun z => Value.ref z.2.1) → Paired (fun v y => ∃ u, ∀ z ∈ all, v = .ref z.2.1 → ∀ t, z.1 = keyT t → y = .int t u) vs ys → AreI ys (D.map (·.1)) := by
    intro all xs D vs ys hs hD
    induction hD generalizing vs ys with
    | nil => intro hv hp; subst hv; cases hp; exact .nil
    | @cons t c a u xs D _ ih =>
      intro hv hp
      subst hv
      cases hp with
      | cons f r =>
        obtain ⟨u', hu'⟩ := f
        have := hu' _ (hs _ (List.Mem.head _)) rfl t rfl
        subst this
        exact .cons (ih (fun z hz => hs z (List.Mem.tail _ hz)) rfl r)
  intro xs D vs ys hD hv hp
  exact key (fun _ h => h) hD hv hp
theorem topsK {A : Around} {env : Env} {p1 p2 p3 p4 p5 pos : Pos} {k : Nat} {scope : Scope} {full dl : List (Addr × Obj)} {xs : List (KT × Addr × Value)} {D : List (Int × Int)} {d : Nat} {l : List Int} (hDS : DS xs D) (hl : D.map (·.1) = l) (hK : Knows prog w dl d xs) (hsub : AllIn full dl) (hdS : ((d : Addr) == sysModules) = false) (hz : xs.length ≤ 1000)
    (hh : A.handled = none) (F : Fr h₀ L s.heap m) (N : News h₀ L s.heap full) (hL : env.locals = L) (hk : env.scope.kind = .function) (hx : env.kindOf nCalls = some .local) (hcalls : m nCalls = some (.ref d))
    (hfree : ∀ y ∈ scope.names, y.2 ≠ .free) (hcell : ∀ y ∈ scope.names, y.2 ≠ .cell) (hkind : scope.kind = .function) (hnames : ∀ y ∈ scope.names, y.2 = .local → scope.names.lookup y.1 = some .local) (hxs : scope.names.lookup sWord = some .local)
    (hs : ∀ x, foldedSetIterable (.Name nCalls p5) env x = pure x) (htg : ∀ v r, letTemporaryGo (.Name sWord p1) v r = pure ())
    (hQ : ∀ (R : Nat) (h' : Heap) (tk' : Nat) (ys : List Value) (j : Nat), AreI ys l → Fr h₀ L h' m → News h₀ L h' ((R, listOf ys.toArray j) :: full) → Q (.ref R) { s with heap := h', toks := tk' }) :
    wpAny (model prog w) A (eval (.ListComp (.Subscript (.Name sWord p1) (.Constant (.int 1) k p2) p3) [⟨.Name sWord p4, .Name nCalls p5, [], 0⟩] scope pos) env) Q E s := by
  obtain ⟨hD, hP⟩ := hK.at N hsub
  obtain ⟨es, ep, hE, hes⟩ := dh_E hD
  have hsz : es.size = xs.length := size_of_entries hes
  refine wpAny_ListComp_walk (fun _ => true) (fun v y => ∃ u, ∀ z ∈ xs, v = .ref z.2.1 → ∀ t, z.1 = keyT t → y = .int t u) hfree hcell hkind hnames hxs (wpAny_Name (wpAny_loadName_local hk hx (by rw [hL]; exact F.ns) hcalls ?_) (by decide)) hs
  refine keysIter hdS hE ?_
  have up : ∀ b o, s.heap.get? b = some o → (s.heap.push { cls := .type "dict_keyiterator", data := .fields #[.ref d, .int 0 0, .int es.size 0, .int ep 0] }).get? b = some o := fun b o e => Heap.get?_push_of_some _ e
  have hz' : (s.heap.push { cls := .type "dict_keyiterator", data := .fields #[.ref d, .int 0 0, .int es.size 0, .int ep 0] }).objs.size = s.heap.objs.size + 1 := Heap.size_push ..
  refine ⟨s.heap.objs.size, _, _, _, _, _, rfl, walksKeys hh s.heap.objs.size d (Nat.ne_of_lt hE.lt) es ep, ?_, ⟨⟨_, Heap.get?_push_size _ rfl, rfl, rfl⟩, hE.at fun o e => up _ o e⟩, ?_, ⟨?_, ?_⟩, ?_⟩
  · have : (1000 : Nat) ≤ sizeLine := by decide
    omega
  · intro b hb
    show b < (s.heap.push { cls := .type "dict_keyiterator", data := .fields #[.ref d, .int 0 0, .int es.size 0, .int ep 0] }).objs.size
    rw [hz']
    rcases List.mem_cons.mp hb with h | h
    · rw [h]; exact Nat.lt_succ_self _
    · rw [List.mem_singleton.mp h]; exact Nat.lt_succ_of_lt hE.lt
  · intro C' i v s₃ m₃ E' _ _ _ _ _
    exact wpAny_tests_nil ⟨rfl, s₃.heap, s₃.toks, rfl, fun _ _ e => e⟩
  · intro C' i v s₃ m₃ E' hv _ hn hm hk3 _
    obtain ⟨hi, rfl⟩ := hv
    have h1 := entry_at hes i
    rw [Array.getElem?_eq_getElem hi] at h1
    obtain ⟨z, hz1⟩ : ∃ z, xs[i]? = some z := ⟨xs[i]'(by omega), List.getElem?_eq_getElem _⟩
    rw [hz1] at h1
    have h2 : es[i] = entryOfKey (TK prog w) z := Option.some.inj h1
    have hmem := List.mem_of_getElem? hz1
    obtain ⟨items, nn, hI⟩ := hP z hmem
    have hkz := dh_key hD z hmem
    have hkey : es[i].key = .ref z.2.1 := by rw [h2]; rfl
    rw [hkey] at hm ⊢
    have k3 : ∀ b o, s.heap.get? b = some o → s₃.heap.get? b = some o := fun b o e => hk3 b o (fun q => absurd (Heap.lt_size e) ((List.mem_singleton.mp q) ▸ Nat.lt_irrefl _)) (up b o e)
    obtain ⟨t, ht⟩ : ∃ t, z.1 = keyT t := by
      have : ∀ {xs : List (KT × Addr × Value)} {D : List (Int × Int)}, DS xs D → ∀ z ∈ xs, ∃ t, z.1 = keyT t := by
        intro xs D h
        induction h with
        | nil => intro z hz; cases hz
        | cons _ ih =>
          intro z hz
          cases hz with
          | head => exact ⟨_, rfl⟩
          | tail _ hz => exact ih z hz
      exact this hDS z hmem
    rw [ht] at hkz
    obtain ⟨t1, t2, t3, hit⟩ := tuple_items hkz hI
    subst hit
    refine Subscript_Constant (wpAny_Name (wpAny_loadName_local hkind hxs hn hm (wpAny_Constant_int ⟨"tuple", _, PySem.F.slot_tuple_getitem.lookup, ⟨_, k3 _ _ hI, rfl⟩, ?_⟩)) (by decide)) htg
    refine P.getItem_tuple (k := 1) (y := .int t t2) (k3 _ _ hI) (by decide) (by decide) rfl rfl ⟨⟨t2, ?_⟩, s₃.heap, _, rfl, fun _ _ e => e⟩
    intro z' hz' e t' ht'
    have e' : z.2.1 = z'.2.1 := by injection e
    have hk2 := dh_key hD z' hz'
    rw [ht', ← e'] at hk2
    have := keyT_inj.mp (IsTupleKey.inj hkz hk2)
    rw [this]
  · intro R h' tk ys vs hnew _ hpl hlen hP' hF hk'
    obtain ⟨j, hj⟩ := hpl
    have k3 : ∀ b o, s.heap.get? b = some o → h'.get? b = some o := fun b o e => hk' b o (fun q => absurd (Heap.lt_size e) ((List.mem_singleton.mp q) ▸ Nat.lt_irrefl _)) (up b o e)
    have fresh : s.heap.get? R = none := by
      cases e : s.heap.get? R with
      | none => rfl
      | some o => rw [up _ _ e] at hnew; cases hnew
    have hvs : vs = xs.map (fun z => Value.ref z.2.1) := by
      apply List.ext_getElem?
      intro j
      rcases Nat.lt_or_ge j vs.length with hj | hj
      · rw [List.getElem?_eq_getElem hj, List.getElem?_map]
        obtain ⟨hi, e⟩ := hP' j _ (List.getElem?_eq_getElem hj)
        have h1 := entry_at hes j
        rw [Array.getElem?_eq_getElem hi] at h1
        obtain ⟨z, hz1⟩ : ∃ z, xs[j]? = some z := ⟨xs[j]'(by omega), List.getElem?_eq_getElem _⟩
        rw [hz1] at h1 ⊢
        have h2 : es[j] = entryOfKey (TK prog w) z := Option.some.inj h1
        rw [e, h2]; rfl
      · rw [List.getElem?_eq_none hj, List.getElem?_map, List.getElem?_eq_none (by omega)]; rfl
    rw [filter_all] at hF
    have hA := areI_of hDS hvs hF
    rw [hl] at hA
    refine hQ R h' tk ys.toList j hA (F.keeps k3) (List.forall_mem_cons.mpr ⟨⟨by simpa using hj, ?_, ?_⟩, N.grown k3⟩)
    · rintro rfl
      obtain ⟨o, _, _, ho, _⟩ := F.ns
      rw [ho] at fresh; cases fresh
    · cases e : h₀.get? R with
      | none => rfl
      | some o => rw [F.keep _ _ e] at fresh; cases fresh
theorem fr_named {h : Heap} {m' : Str → Option Value} {v1 v2 v3 : Option Value} (F : Fr h₀ L h m') (e1 : m' (Str.ofString "count") = v1) (e2 : m' (Str.ofString "calls") = v2) (e3 : m' (Str.ofString "words") = v3) :
    Fr h₀ L h (fun y => if y = Str.ofString "count" then v1 else if y = Str.ofString "calls" then v2 else if y = Str.ofString "words" then v3 else m' y) := by
  have : (fun y => if y = Str.ofString "count" then v1 else if y = Str.ofString "calls" then v2 else if y = Str.ofString "words" then v3 else m' y) = m' := by
    funext y
    by_cases h1 : y = Str.ofString "count"
    · rw [if_pos h1, h1, e1]
    · rw [if_neg h1]
      by_cases h2 : y = Str.ofString "calls"
      · rw [if_pos h2, h2, e2]
      · rw [if_neg h2]
        by_cases h3 : y = Str.ofString "words"
        · rw [if_pos h3, h3, e3]
        · rw [if_neg h3]
  rw [this]
  exact F
noncomputable def dlOf (h : Heap) (d : Addr) (od : Obj) (xs : List (KT × Addr × Value)) : List (Addr × Obj) := (d, od) :: xs.map (fun z => (z.2.1, (h.get? z.2.1).getD od))
theorem knows_of {h : Heap} {d : Addr} {od : Obj} {xs : List (KT × Addr × Value)} (c4 : h.DictOfH (TK prog w) d xs) (c8 : ∀ z ∈ xs, PK h z.2.1) (ho : h.get? d = some od) : Knows prog w (dlOf h d od xs) d xs := by
  intro h' hh
  have hz : ∀ z ∈ xs, ∀ o, h.get? z.2.1 = some o → h'.get? z.2.1 = some o := fun z hz o e => by
    have := hh (z.2.1, (h.get? z.2.1).getD od) (List.Mem.tail _ (List.mem_map.mpr ⟨z, hz, rfl⟩))
    rw [e] at this
    exact this
  refine ⟨dh_keep c4 fun b o hb e => ?_, fun z hz' => (c8 z hz').keep fun o e => hz z hz' o e⟩
  rcases hb with rfl | hb
  · have := hh (b, od) (List.Mem.head _)
    rw [ho] at e
    cases e
    exact this
  · obtain ⟨z, hz', rfl⟩ := List.mem_map.mp hb
    exact hz z hz' o e
theorem news_dl {h : Heap} {I d : Addr} {od : Obj} {xs : List (KT × Addr × Value)} (ho : h.get? d = some od) (hd : NewA h₀ L I d) (c8 : ∀ z ∈ xs, NewA h₀ L I z.2.1 ∧ PK h z.2.1) : News h₀ L h (dlOf h d od xs) := by
  refine List.forall_mem_cons.mpr ⟨⟨ho, hd.2.1, hd.1⟩, fun p hp => ?_⟩
  obtain ⟨z, hz, rfl⟩ := List.mem_map.mp hp
  obtain ⟨⟨n1, n2, _⟩, items, n, hi⟩ := c8 z hz
  refine ⟨?_, n2, n1⟩
  show h.get? z.2.1 = some ((h.get? z.2.1).getD od)
  rw [show h.get? z.2.1 = _ from hi]
  rfl
theorem pk_ne {h : Heap} {a b : Nat} (x : PK h a) (e : h.get? b = some (tabObj #[])) : a ≠ b := by
  rintro rfl
  obtain ⟨items, n, hi⟩ := x
  rw [show h.get? a = _ from hi] at e
  cases e
theorem dict_ne {h : Heap} {d b : Nat} {xs : List (KT × Addr × Value)} (x : h.DictOfH (TK prog w) d xs) (e : h.get? b = some (tabObj #[])) : d ≠ b := by
  rintro rfl
  obtain ⟨o, es, ep, ho, hc, hd, _⟩ := x
  rw [e] at ho
  cases ho
  cases hd
theorem dict_obj {h : Heap} {d : Addr} {xs : List (KT × Addr × Value)} (x : h.DictOfH (TK prog w) d xs) : ∃ es ep, h.get? d = some { cls := .type "dict", data := .dict es ep } := by
  obtain ⟨o, es, ep, ho, hc, hd, _⟩ := x
  obtain ⟨c, di, da, sl⟩ := o
  obtain ⟨rfl, rfl, rfl⟩ := hc
  dsimp only at hd
  subst hd
  exact ⟨es, ep, ho⟩
theorem AreI.ints {vs : List Value} {l : List Int} (h : AreI vs l) : IntsAre vs l := by
  induction h with
  | nil => exact .nil
  | cons _ ih => exact .cons _ _ ih
theorem ints_areI {vs : List Value} {l : List Int} (h : IntsAre vs l) : AreI vs l := by
  induction h with
  | nil => exact .nil
  | cons _ _ _ ih => exact .cons ih
theorem sortK {A : Around} {full : List (Addr × Obj)} {vs : List Value} {l : List Int} {D : Nat} {j : Nat} (F : Fr h₀ L s.heap m) (N : News h₀ L s.heap full) (hm : ((D, listOf vs.toArray j) : Addr × Obj) ∈ full) (hI : AreI vs l) (hs : l.Pairwise (· ≤ ·)) (h64 : l.length < 64)
    (hQ : ∀ (R : Nat) (vs' : List Value) (c : Nat) (h' : Heap), AreI vs' l → AllLt R full → Fr h₀ L h' m → News h₀ L h' ((R, listOf vs'.toArray c) :: full) → Q (.ref R) { s with heap := h' }) :
    wpAny (model prog w) A (call (.builtin "sorted") [.ref D]) Q E s := by
  refine kso_sorted F N ⟨_, (N _ hm).1, rfl, j, rfl⟩ hI.ints h64 fun R vs' ns' c h' F' N' hlt hi _ hp hs' _ => ?_
  have e : ns' = l := List.Perm.eq_of_pairwise (fun a b _ _ h1 h2 => Int.le_antisymm h1 h2) hs' hs hp
  subst e
  exact hQ R vs' c h' (ints_areI hi) (allLt_iff.mpr hlt) F' N'
theorem AreI.get {vs : List Value} {l : List Int} (h : AreI vs l) : ∀ {j : Nat} {v : Value}, vs[j]? = some v → ∃ c t, l[j]? = some c ∧ v = .int c t := by
  induction h with
  | nil => intro j v e; simp at e
  | @cons x t _ _ _ ih =>
    intro j v e
    cases j with
    | zero => simp at e; exact ⟨x, t, rfl, e.symm⟩
    | succ j => simp at e; simpa using ih e
theorem AreI.length {vs : List Value} {l : List Int} (h : AreI vs l) : vs.length = l.length := by
  induction h with
  | nil => rfl
  | cons _ ih => simp [ih]
theorem eqK {A : Around} {full : List (Addr × Obj)} {vs us : List Value} {l : List Int} {D1 D2 : Nat} {j1 j2 : Nat} {E : Value → Shared → Prop} (N : News h₀ L s.heap full) (h1 : ((D1, listOf vs.toArray j1) : Addr × Obj) ∈ full) (h2 : ((D2, listOf us.toArray j2) : Addr × Obj) ∈ full) (i1 : AreI vs l) (i2 : AreI us l) (hu : A.units < cLine)
    (hQ : Q (.bool true) s) : wpAny (model prog w) A (compareOp .Eq (.ref D1) (.ref D2)) Q E s := by
  refine PySem.SeqAt.eq_listAt (e := fun _ => true) ⟨_, (N _ h1).1, rfl, j1, rfl⟩ ⟨_, (N _ h2).1, rfl, j2, rfl⟩ (by simp [i1.length, i2.length]) hu (fun j hj1 hj2 => ?_) ?_
  · have e1 : vs[j]? = some (vs.toArray[j]) := by simpa using (List.getElem?_eq_getElem (by simpa using hj1))
    have e2 : us[j]? = some (us.toArray[j]) := by simpa using (List.getElem?_eq_getElem (by simpa using hj2))
    obtain ⟨c, t, hc, hv⟩ := i1.get e1
    obtain ⟨c', t', hc', hv'⟩ := i2.get e2
    rw [hc] at hc'
    cases hc'
    rw [hv, hv']
    have := PySem.SeqAt.EqAt.int_int (A := A.in1) (s := s) c t c t'
    rwa [show (c == c) = true from by simp] at this
  · rw [show (List.range vs.toArray.size).all (fun _ => true) = true from by simp]
    exact hQ
section
variable {A : Around} {env : Env} {x : Str} {px : Pos} {body : List Stmt} {R : Result → Shared → Prop} {full : List (Addr × Obj)} {I : Addr}
theorem rangeLoop {a : Int} {N : Nat} (M : (Str → Option Value) → Prop) (hh : A.handled = none) (hx : env.kindOf x = some .local) (hk : env.scope.kind = .function) (hL : env.locals = L)
    (hM : ∀ m u, M m → M (fun y => if y = x then u else m y)) (hI : ∀ p ∈ full, p.1 ≠ I) (hIn : I ≠ L ∧ h₀.get? I = none)
    (step : ∀ (i : Nat) (s₁ : Shared) (m₁ : Str → Option Value) (tk : Tok) (io : Obj) (E' : Value → Shared → Prop), i < N → M m₁ → Fr h₀ L s₁.heap (fun y => if y = x then some (.int (a + i) tk) else m₁ y) → News h₀ L s₁.heap ((I, io) :: full) →
      wpAny (model prog w) A (execs body env) (fun f s₂ => Hold (f = .next ∧ ∃ h₂ tk₂ m₂, s₂ = { s₁ with heap := h₂, toks := tk₂ } ∧ M m₂ ∧ Fr h₀ L h₂ m₂ ∧ News h₀ L h₂ ((I, io) :: full))) E' s₁)
    (hit : IsRangeIter s.heap I a N 1) (F : Fr h₀ L s.heap m) (N0 : News h₀ L s.heap full) (hm : M m)
    (done : ∀ h' tk m', M m' → Fr h₀ L h' m' → News h₀ L h' full → R (.ok .next) { s with heap := h', toks := tk }) :
    codeAny (model prog w) A (.forLoop (.Name x px) (.ref I) body [] env) R s := by
  subst hL
  have hp : (env.scope.kind == .class || (env.scope.kind == .module && env.locals != env.globals)) = false := by rw [hk]; rfl
  refine codeAny_forLoop_any (fun n s' => ∃ h' tk m' i, s' = { s with heap := h', toks := tk } ∧ IsRangeIter h' I (a + (i : Nat)) ((N : Int) - (i : Nat)) 1 ∧ Fr h₀ env.locals h' m' ∧ News h₀ env.locals h' full ∧ M m' ∧ i ≤ N ∧ n = N + 1 - i)
    ?_ (N + 1) ⟨s.heap, s.toks, m, 0, rfl, by simpa using hit, F, N0, hm, Nat.zero_le _, rfl⟩
  rintro n s' ⟨H, tk, m', i, rfl, hit', F', N', hm', hi, rfl⟩
  have keepI : ∀ {h h' : Heap} {u : Str → Option Value}, (∀ b o, b ≠ I → h.get? b = some o → h'.get? b = some o) → Fr h₀ env.locals h u → News h₀ env.locals h full → Fr h₀ env.locals h' u ∧ News h₀ env.locals h' full := by
    intro h h' u e Fx Nx
    refine ⟨⟨Fx.ns.at fun o q => e _ o (Ne.symm hIn.1) q, fun b o q => e b o (fun r => ?_) (Fx.keep b o q), Fx.above⟩, fun p hp => ⟨e _ _ (hI p hp) (Nx p hp).1, (Nx p hp).2⟩⟩
    rw [r, hIn.2] at q; cases q
  by_cases hlt : i < N
  · refine wpAny_pyNext_range_item hit' (by omega) fun h₁ hit₁ hs₁ => ?_
    replace hs₁ : Heap.SameBut I H h₁ := hs₁
    obtain ⟨F1, N1⟩ := keepI (fun b o hb e => hs₁.extBut b o hb e) F' N'
    refine wpAny_of_eq (a := ()) rfl ?_
    refine wpAny_assign_Name (wpAny_storeName_local hx F1.ns (fun h₂ hn₂ hs₂ => ?_) hp)
    replace hs₂ : Heap.SameBut env.locals h₁ h₂ := hs₂
    have F2 := F1.set hn₂ hs₂
    have N2 : News h₀ env.locals h₂ ((I, _) :: full) := List.forall_mem_cons.mpr ⟨⟨hs₂.extBut _ _ hIn.1 hit₁, hIn⟩, fun p hp => ⟨hs₂.extBut _ _ (N1 p hp).2.1 (N1 p hp).1, (N1 p hp).2⟩⟩
    refine wpAny_mono (step i { s with heap := h₂, toks := _ } m' _ _ _ hlt hm' F2 N2) (fun f s₃ h₃ => ?_) fun _ _ e => e
    obtain ⟨rfl, h4, tk4, m4, rfl, hm4, F4, N4⟩ := h₃
    refine ⟨N + 1 - (i + 1), by omega, h4, tk4, m4, i + 1, rfl, ?_, F4, fun p hp => N4 p (List.Mem.tail _ hp), hm4, hlt, rfl⟩
    have e := (N4 _ (List.Mem.head _)).1
    have e1 : a + ((i + 1 : Nat) : Int) = a + (i : Nat) + 1 := by omega
    have e2 : (N : Int) - ((i + 1 : Nat) : Int) = (N : Int) - (i : Nat) - 1 := by omega
    rw [e1, e2]
    exact e
  · have hie : i = N := by omega
    subst hie
    refine wpAny_pyNext_range_end hh hit' (by omega) fun h₁ he₁ => wpAny_execs_nil ?_
    obtain ⟨F1, N1⟩ := keepI (fun b o hb e => he₁ b o hb e) F' N'
    exact done h₁ tk m' hm' F1 N1
theorem callT2 {T : String} {np pos : Pos} {e1 e2 : Expr} {E : Value → Shared → Prop} (G : s.heap.Ns env.globals mg) (hmg : mg x = none) (Bn : s.heap.Ns env.builtins mb) (hmb : mb x = some (.type T)) (hk : env.scope.kind = .function) (hx : env.kindOf x = some .globalImplicit) (hd : (x == ("__debug__" : Str)) = false)
    (hs : starEach [e1, e2] env = [(false, eval e1 env), (false, eval e2 env)])
    (h : wpAny (model prog w) A (eval e1 env) (fun v s₁ => wpAny (model prog w) A (eval e2 env) (fun v2 s₂ => wpAny (model prog w) A (call (.type T) [v, v2]) Q E s₂) E s₁) E s) :
    wpAny (model prog w) A (eval (.Call (.Name x np) [e1, e2] [] pos) env) Q E s := by
  show wpAny (model prog w) A (do callWith pos (← eval (.Name x np) env) [] (backTo pos (starEach [e1, e2] env)) (backToKw pos (keywordEach [] env))) Q E s
  rw [hs]
  refine wpAny_bind (Name_function_global hk hx (loadGlobal_builtin G hmg Bn hmb ?_) hd)
  exact PySem.callWith_type rfl (Calls.evalArgs_plain (Calls.spliced_cons (wpAny_mono h (fun v s₁ h₁ => Calls.spliced_cons (wpAny_mono h₁ (fun v2 s₂ h₂ => Calls.spliced_nil h₂) fun _ _ e => e)) fun _ _ e => e)))
end
end Mine
namespace Mine
/-- the ways to choose, the Catalan and the Narayana numbers, of the few counts -/
noncomputable def chN (n k : Nat) : Int := ((wayV n k).getD 0)
structure HeadFacts (n : Nat) (w2 c : Int) : Prop where
  f1 : ((2 * (n : Int)), (n : Int), w2) ∈ waysTF
  f2 : dmT w2 ((n : Int) + 1) = some (c, 0)
  f5 : ((wordsL n).length : Int) = c
  f6 : ((topsD (wordsL n)).map (·.2)).sum = c
  f7 : (topsD (wordsL n)).map (·.1) = rangeKs 1 n
  f8 : (rangeKs 1 n).Pairwise (· ≤ ·)
  f9 : (rangeKs 1 n).length < 64
  f10 : Builtin.Range.rangeSize 1 ((n : Int) + 1) 1 = (n : Int)
  f11 : Builtin.Range.small 1 ((n : Int) + 1) 1 = true
  f12 : n ≤ 2 ^ 24
structure TurnFacts (n i : Nat) (a b o : Int) : Prop where
  f1 : ((n : Int), 1 + (i : Int), a) ∈ waysT
  f2 : ((n : Int), 1 + (i : Int) - 1, b) ∈ waysT
  f3 : dmT (a * b) (n : Int) = some (o, 0)
  f6 : ((topsD (wordsL n)).find? fun p => decide (p.1 = 1 + (i : Int))) = some (1 + (i : Int), o)
  f7 : ((topsD (wordsL n)).find? fun p => decide (p.1 = (n : Int) + 1 - (1 + (i : Int)))) = some ((n : Int) + 1 - (1 + (i : Int)), o)
  f8 : Builtin.Int.intBits a ≤ 64
theorem head_facts (n : Nat) (h1 : 1 ≤ n) (h4 : n ≤ 4) : ∃ w2 c, HeadFacts n w2 c := by
  have : n = 1 ∨ n = 2 ∨ n = 3 ∨ n = 4 := by omega
  rcases this with rfl | rfl | rfl | rfl
  · exact ⟨2, 1, by decide +kernel, by decide +kernel, by decide +kernel, by decide +kernel, by decide +kernel, by decide +kernel, by decide +kernel, by decide +kernel, by decide +kernel, by decide +kernel⟩
  · exact ⟨6, 2, by decide +kernel, by decide +kernel, by decide +kernel, by decide +kernel, by decide +kernel, by decide +kernel, by decide +kernel, by decide +kernel, by decide +kernel, by decide +kernel⟩
  · exact ⟨20, 5, by decide +kernel, by decide +kernel, by decide +kernel, by decide +kernel, by decide +kernel, by decide +kernel, by decide +kernel, by decide +kernel, by decide +kernel, by decide +kernel⟩
  · exact ⟨70, 14, by decide +kernel, by decide +kernel, by decide +kernel, by decide +kernel, by decide +kernel, by decide +kernel, by decide +kernel, by decide +kernel, by decide +kernel, by decide +kernel⟩
noncomputable def turnC (n i : Nat) : Int × Int × Int := (chN n (1 + i), chN n i, (chN n (1 + i) * chN n i).fdiv n)
theorem turn_facts (n i : Nat) (h1 : 1 ≤ n) (h4 : n ≤ 4) (hi : i < n) : ∃ a b o, TurnFacts n i a b o := by
  have key : (List.range 5).all (fun n => (List.range n).all fun i => decide (((n : Int), 1 + (i : Int), (turnC n i).1) ∈ waysT) && (decide (((n : Int), 1 + (i : Int) - 1, (turnC n i).2.1) ∈ waysT) && (decide (dmT ((turnC n i).1 * (turnC n i).2.1) (n : Int) = some ((turnC n i).2.2, 0)) &&
    (decide (((topsD (wordsL n)).find? fun p => decide (p.1 = 1 + (i : Int))) = some (1 + (i : Int), (turnC n i).2.2)) &&
    (decide (((topsD (wordsL n)).find? fun p => decide (p.1 = (n : Int) + 1 - (1 + (i : Int)))) = some ((n : Int) + 1 - (1 + (i : Int)), (turnC n i).2.2)) && decide (Builtin.Int.intBits (turnC n i).1 ≤ 64)))))) = true := by decide +kernel
  have := List.all_eq_true.mp (List.all_eq_true.mp key n (List.mem_range.mpr (by omega))) i (List.mem_range.mpr hi)
  simp only [Bool.and_eq_true, decide_eq_true_eq] at this
  obtain ⟨e1, e2, e3, e6, e7, e8⟩ := this
  exact ⟨_, _, _, e1, e2, e3, e6, e7, e8⟩
theorem DS.sum {xs : List (KT × Addr × Value)} {D : List (Int × Int)} (h : DS xs D) : sumD xs = (D.map (·.2)).sum := by
  induction h with
  | nil => rfl
  | cons _ ih => simp [sumD, ih]
theorem DS.find {xs : List (KT × Addr × Value)} {D : List (Int × Int)} (h : DS xs D) {t c : Int} (hf : D.find? (fun p => decide (p.1 = t)) = some (t, c)) : ∃ q u, atKey xs (keyT t) = some q ∧ q.2 = .int c u := by
  induction h with
  | nil => cases hf
  | @cons t' c' a u xs D _ ih =>
    unfold atKey at ih ⊢
    by_cases e : t' = t
    · subst e
      simp only [List.find?_cons, decide_true] at hf ⊢
      cases hf
      exact ⟨_, u, rfl, rfl⟩
    · have e2 : ¬ keyT t' = keyT t := fun q => e (keyT_inj.mp q)
      simp only [List.find?_cons, decide_eq_false e, decide_eq_false e2] at hf ⊢
      exact ih hf
section
variable {prog : Program} {w : World} {s : Shared} {h₀ : Heap} {L : Addr} {m : Str → Option Value} {Q E : Value → Shared → Prop}
theorem listG {A : Around} {full : List (Addr × Obj)} {r : Addr} {a b : Int} {t₀ u₀ v₀ : Tok} {n : Nat} (hh : A.handled = none) (F : Fr h₀ L s.heap m) (N : News h₀ L s.heap full) (hr : IsRange s.heap r a b 1 t₀ u₀ v₀) (hn : Builtin.Range.rangeSize a b 1 = (n : Int)) (hsmall : Builtin.Range.small a b 1 = true) (hz : n ≤ 2 ^ 24)
    (hQ : ∀ (R : Nat) (us : List Value) (c : Nat) (h' : Heap) (tk : Nat), AreI us (rangeKs a n) → AllLt R full → Fr h₀ L h' m → News h₀ L h' ((R, listOf us.toArray c) :: full) → Q (.ref R) { s with heap := h', toks := tk }) :
    wpAny (model prog w) A (call (.type "list") [.ref r]) Q E s :=
  kll_range hh F N hr hsmall hn hz fun D us c h' tk F' N' hlt hI => hQ D us c h' tk (ints_areI hI) (allLt_iff.mpr hlt) F' N'
theorem fr_named2 {h : Heap} {m' : Str → Option Value} {v0 v1 v2 : Option Value} (F : Fr h₀ L h (fun y => if y = Str.ofString "tops" then v0 else m' y)) (e1 : m' (Str.ofString "count") = v1) (e2 : m' (Str.ofString "calls") = v2) :
    Fr h₀ L h (fun y => if y = Str.ofString "tops" then v0 else if y = Str.ofString "count" then v1 else if y = Str.ofString "calls" then v2 else m' y) := by
  have : (fun y => if y = Str.ofString "tops" then v0 else if y = Str.ofString "count" then v1 else if y = Str.ofString "calls" then v2 else m' y) = (fun y => if y = Str.ofString "tops" then v0 else m' y) := by
    funext y
    by_cases h0 : y = Str.ofString "tops"
    · rw [if_pos h0, if_pos h0]
    · rw [if_neg h0, if_neg h0]
      by_cases h1 : y = Str.ofString "count"
      · rw [if_pos h1, h1, e1]
      · rw [if_neg h1]
        by_cases h2 : y = Str.ofString "calls"
        · rw [if_pos h2, h2, e2]
        · rw [if_neg h2]
  rw [this]
  exact F
theorem fr_named3 {h : Heap} {m' : Str → Option Value} {v1 v2 : Option Value} (F : Fr h₀ L h m') (e1 : m' (Str.ofString "count") = v1) (e2 : m' (Str.ofString "calls") = v2) :
    Fr h₀ L h (fun y => if y = Str.ofString "count" then v1 else if y = Str.ofString "calls" then v2 else m' y) := by
  have : (fun y => if y = Str.ofString "count" then v1 else if y = Str.ofString "calls" then v2 else m' y) = m' := by
    funext y
    by_cases h1 : y = Str.ofString "count"
    · rw [if_pos h1, h1, e1]
    · rw [if_neg h1]
      by_cases h2 : y = Str.ofString "calls"
      · rw [if_pos h2, h2, e2]
      · rw [if_neg h2]
  rw [this]
  exact F
theorem push2_up {h : Heap} {o1 o2 : Obj} : ∀ b o, h.get? b = some o → ((h.push o1).push o2).get? b = some o := fun _ _ e => Heap.get?_push_of_some _ (Heap.get?_push_of_some _ e)
theorem push_ne {h : Heap} {b : Addr} {o o1 : Obj} (e : h.get? b = some o) : b ≠ (h.push o1).objs.size := by
  intro q
  have h1 : (h.push o1).objs.size < h.objs.size := q ▸ Heap.lt_size e
  rw [Heap.objs_push, Array.size_push] at h1
  exact absurd h1 (by omega)
theorem news_ne2 {h : Heap} {full : List (Addr × Obj)} (N : News h₀ L h full) {o1 : Obj} : ∀ p ∈ full, p.1 ≠ (h.push o1).objs.size := fun p hp => push_ne (N p hp).1
theorem fr_new2 {h : Heap} (F : Fr h₀ L h m) {o1 : Obj} : (h.push o1).objs.size ≠ L ∧ h₀.get? (h.push o1).objs.size = none := by
  constructor
  · intro e
    obtain ⟨o, _, _, ho, _⟩ := F.ns
    exact push_ne ho e.symm
  · cases e : h₀.get? (h.push o1).objs.size with
    | none => rfl
    | some o => exact absurd rfl (push_ne (F.keep _ _ e))
end
end Mine
section
local macro_rules | `(tactic| walk_at "call ref") => `(tactic| (refine Mine.hold ?_))
local macro_rules | `(tactic| walk_at "eval Call Attribute") => `(tactic| (refine Mine.hold ?_))
local macro_rules | `(tactic| walk_at "eval ListComp") => `(tactic| (refine Mine.hold ?_))
local macro_rules | `(tactic| walk_at "call builtin:sorted") => `(tactic| (refine Mine.hold ?_))
local macro_rules | `(tactic| walk_at "call type:list") => `(tactic| (refine Mine.hold ?_))
local macro_rules | `(tactic| walk_at "compareOp Eq ref ref") => `(tactic| (refine Mine.hold ?_))
local macro_rules | `(tactic| walk_at "call builtin:len") => `(tactic| (refine Mine.hold ?_))
local macro_rules | `(tactic| walk_at "exec For Name Call cons nil") => `(tactic| (refine Mine.hold ?_))
local macro_rules | `(tactic| walk_at "exec Assign cons ListComp") => `(tactic| (refine Mine.hold ?_))
local macro_rules | `(tactic| walk_at "binaryOp Mult int int") => `(tactic| (refine' Mine.L_mul rfl ?hm ?_; (case hm => first | exact PySem.IntMulOk.of_left (by decide +kernel) | exact PySem.IntMulOk.of_left (by assumption)); k_whole))
namespace Mine
theorem p1 (ds es : List WData) : PySem.Challenge.rw_gg0006_01.row.claim.post ds (WData.bool true) es = true := by
  first
  | (show (_ && _) = true; refine Bool.and_eq_true_iff.mpr ⟨by rfl, ?_⟩; simp [WTm.holds, WTm.eval, OpenLaw.row]; trace "A"; done)
  | kernel_rfl
  | (with_unfolding_all rfl)
theorem kn_postG {M : Model} {A : Around} {cd : Code} {s s₁ : Shared} {cw : ClaimW} {cl : Str → Option Addr} {mean : ExcName → Option Value} {args : List WData} {tabs : List (Addr × Addr)} (hT : TabsAt tabs s₁.heap) (hr : ∀ a x, cw.raises a x = false) (hp : cw.post args (.bool true) args = true)
    (h : codeAny M A cd (fun r s' => r = .ok (.ret (.bool true)) ∧ (∀ b o, (ghostOf s₁.heap tabs).get? b = some o → s'.heap.get? b = some o) ∧ GrownAll tabs s'.heap ∧ s'.os = s₁.os ∧ AllBare s'.gens) s) : codeAny M A cd (GoodWG cw cl mean args s₁) s := by
  refine codeAny_mono h fun r s' hh => ?_
  obtain ⟨hres, hold, hgr, hos, hab⟩ := hh
  have look : ∀ b o, s₁.heap.get? b = some o → (s'.heap.get? b = some o) ∨ (isCodeTable s₁.heap b ∧ o = tabObj #[] ∧ ∃ ps, s'.heap.get? b = some (tabObj ps)) := by
    intro b o e
    by_cases hb : b ∈ tabs.map (·.2)
    · right
      obtain ⟨q, hq, hqb⟩ := List.mem_map.mp hb
      subst hqb
      have hq2 := hT q hq
      obtain ⟨ps, hps⟩ := hgr.get q hq
      exact ⟨(hq2.1.tab hq2.2).isCodeTable, Option.some.inj (e.symm.trans hq2.2), ps, hps⟩
    · exact .inl (hold b o (ghost_ne e hb))
  refine ⟨.inl ⟨.bool true, .bool true, [], hres, fun c => hr _ c, .bool _, hp, fun _ => ⟨List.nodup_nil, fun a ha => nomatch ha⟩⟩, ⟨fun b o e => ?_, fun b o e => ?_⟩, hos, hab⟩
  · rcases look b o e with k | ⟨k1, k2, ps, k3⟩
    · exact .inl k
    · subst k2
      exact .inr (.inl ⟨k1, rfl, #[], ps, rfl, by rw [k3, Array.empty_append]⟩)
  · rcases look b o e with k | ⟨_, _, ps, k3⟩
    · exact ⟨o, k⟩
    · exact ⟨_, k3⟩

set_option maxHeartbeats 8000000 in
theorem t2 : PySem.Challenge.rw_gg0006_01.Holds := by
  refine Mine.hd ?_
  k_fill
  intro w s₀ s₁ mg mb G Y fa o pm cd doc dV kV ho hd hcd hD hmg hg args vals as hpre hlay hrd hwl hlo
  have KX := km_in_of Y
  km_tabs Y
  have X := (Ground.X G).1
  have V := (Ground.X G).2
  refine Ground.open G ?_
  intro T B D TE TW
  try (refine guard_noD D (by decide +kernel) ?_; clear D)
  km_lay T hmg ho hd cd
  clear hmg
  wrow_args hpre hlay hrd hwl hlo
  all_goals (
    first | refine callC_kw (enter_call ?_) | refine enter_call ?_
    w_top on
    refine Mine.kn_postG (by assumption) (fun _ _ => rfl) (Mine.p1 _ _) ?_
    w_call any ho hd hcd hD T F
    clear hd
    kn_ghosts F T
    k_drop
    skip)
  all_goals try k_fold
  k_steps
  rename List Int => ws9
  rename Fr _ _ _ _ => F'
  rename News _ _ _ _ => N'
  rename Frag.In _ _ => X'
  rename Below _ _ _ _ => B'
  rename Top topProg _ _ _ _ _ => T'
  refine (show wpAny _ _ _ _ _ _ from ?_)
  have hfm : 0 ≤ ws9.sum.fmod 4 ∧ ws9.sum.fmod 4 < 4 := ⟨Int.fmod_nonneg_of_pos _ (by omega), Int.fmod_lt_of_pos _ (by omega)⟩
  obtain ⟨n, hn1, hn4, hcn⟩ : ∃ n : Nat, 1 ≤ n ∧ n ≤ 4 ∧ 1 + ws9.sum.fmod 4 = (n : Int) := ⟨(1 + ws9.sum.fmod 4).toNat, by omega, by omega, by omega⟩
  have hb0 : AllBare s₁.gens := by
    intro y hy
    rw [hg] at hy
    cases hy with | mk h => simp at h
  refine filtcomp (xs := rowsL n n) okW rfl (by with_unfolding_all rfl) (by with_unfolding_all rfl) (by decide) rfl (by decide) rfl rfl rfl (by intro _; rfl) ?_ ?_
  · exact Nat.le_trans (rows_len n n hn4 hn4).1 (by decide)
  k_steps
  refine (show wpAny _ _ _ _ _ _ from ?_)
  refine rows (n := n) (List.Mem.head _) hn4 hcn rfl B' F' X' N' T' rfl ?hd ?hq
  case hd => k_room
  case hq =>
    intro D1 h1 tk1 ys1 k1 hA1 hlt1 keep1 F1 N1
    refine ⟨D1, k1, ys1, _, rfl, hA1, (N1 _ (List.Mem.head _)).1, F1.ns, hb0, ?test, ?q⟩
    case test =>
      intro C x t s₂ m₂ E' hx hn2 hm2 keep2 hb2
      have hfit := rows_fit n hn4 x hx
      simp only [fitW, Bool.and_eq_true] at hfit
      have F2 := F1.keeps keep2
      have N2 := N1.grown keep2
      refine wpAny_isTrue_value (callK1 F2 X' T' (by k_is) (by k_is) rfl rfl rfl (by decide) rfl (wpAny_Name (wpAny_loadName_local rfl rfl hn2 hm2 ⟨X'.keeps F2.keep, ?_⟩) (by decide)))
      refine chk (b := okW x) (List.Mem.head _) hfit.1 hfit.2.1 hfit.2.2.1 rfl hb2 B' F2 X' N2 T' rfl ?hd2 ?hq2
      case hd2 => k_room
      case hq2 =>
        intro h3 tk3 gs3 hb3 keep3 F3 N3
        exact wpAny_truthy_bool ⟨rfl, h3, _, gs3, rfl, hb3, keep3⟩
    case q =>
      intro W hw tkw gw ysw kw hWsz hWk hAw hbw hnsw keepw
      have hLW : s₁.heap.objs.size < W := Nat.lt_of_lt_of_le F1.ns.lt hWsz
      have kbw : ∀ b o, (ghostOf s₁.heap [(62, 58), (55, 51)]).get? b = some o → hw.get? b = some o := fun b o e =>
        keepw b o (Nat.ne_of_lt (Nat.lt_of_lt_of_le (Heap.lt_size e) F1.above)) (F1.keep b o e)
      have F3 : Fr (ghostOf s₁.heap [(62, 58), (55, 51)]) s₁.heap.objs.size hw _ := ⟨hnsw, kbw, F1.above⟩
      have N3 := fun p hp => (⟨keepw _ _ (N1 p hp).2.1 (N1 p hp).1, (N1 p hp).2⟩ : hw.get? p.1 = some p.2 ∧ p.1 ≠ s₁.heap.objs.size ∧ (ghostOf s₁.heap [(62, 58), (55, 51)]).get? p.1 = none)
      have Nd := N3 _ (List.Mem.tail _ (List.Mem.tail _ (List.Mem.head _)))
      have N58 := N3 _ (List.Mem.tail _ (List.Mem.tail _ (List.Mem.tail _ (List.Mem.head _))))
      have N51 := N3 _ (List.Mem.tail _ (List.Mem.tail _ (List.Mem.tail _ (List.Mem.tail _ (List.Mem.head _)))))
      have dh0 := empty_dict Nd.1 (by assumption : Obj.IsDictOf (PySem.strKind _ _) _ [])
      have hWne : W ≠ s₁.heap.objs.size := Nat.ne_of_gt hLW
      have hIsz : W < hw.objs.size := Heap.lt_size hWk
      have hLsz : s₁.heap.objs.size < hw.objs.size := F3.ns.lt
      have hup : ∀ b o, hw.get? b = some o → (hw.push { cls := .type "list_iterator", data := .fields #[.ref W, .int 0 0] }).get? b = some o := fun b o e => Heap.get?_push_of_some _ e
      have hneI : ∀ b o, hw.get? b = some o → b ≠ hw.objs.size := fun b o e => Nat.ne_of_lt (Heap.lt_size e)
      obtain ⟨v0, t0, hx0, hv0⟩ : ∃ v0 t0, ysw[0]? = some v0 ∧ v0 = .str (firstW n) t0 := by
        have h1 := words_head n hn1 hn4
        have h2 := hAw.length
        cases hy : ysw[0]? with
        | none => rw [show wordsL n = List.filter okW (rowsL n n) from rfl] at h1; rw [List.getElem?_eq_none_iff] at hy; rw [List.getElem?_eq_none (by omega)] at h1; cases h1
        | some v =>
          obtain ⟨x, t, hx, rfl⟩ := hAw.get hy
          rw [show wordsL n = List.filter okW (rowsL n n) from rfl, hx] at h1
          cases h1
          exact ⟨_, t, rfl, rfl⟩
      subst hv0
      refine wpAny_execs_cons (wpAny_For (wpAny_Name (wpAny_loadName_local rfl rfl F3.ns (by rfl) (wpAny_pyIter_list ⟨_, hWk, rfl, kw, rfl⟩ ?_)) (by decide)) (by intro _; rfl))
      refine listLoop (ax := W) (items := ysw) (m := _) (J := fun i s' m' => ∃ (d : Addr) (xs : List (KT × Addr × Value)) (u : Tok), m' (Str.ofString "calls") = some (.ref d) ∧ m' (Str.ofString "words") = some (.ref W) ∧ m' (Str.ofString "count") = some (.int (n : Int) u) ∧
          s'.heap.DictOfH (TK PySem.Challenge.rw_gg0006_01.row.prog w) d xs ∧ DS xs (topsD ((wordsL n).take i)) ∧ (d == sysModules) = false ∧ NewA (ghostOf s₁.heap [(62, 58), (55, 51)]) s₁.heap.objs.size hw.objs.size d ∧ (∀ z ∈ xs, NewA (ghostOf s₁.heap [(62, 58), (55, 51)]) s₁.heap.objs.size hw.objs.size z.2.1 ∧ PK s'.heap z.2.1) ∧
          AllBare s'.gens ∧ s'.os = s₁.os ∧ s'.drawn = s₁.drawn ∧ (∀ b o, b ≠ s₁.heap.objs.size → hw.get? b = some o → s'.heap.get? b = some o))
        rfl rfl rfl (Nat.ne_of_gt hLsz) hWne (Nat.ne_of_lt hIsz) ?fr ?st ⟨_, Heap.get?_push_size _ rfl, rfl, rfl⟩ ⟨_, hup _ _ hWk, rfl, kw, rfl⟩ (F3.ns.at fun o e => hup _ o e) ?z ?dn ?fr0
      case fr =>
        intro i s' h' tk m' u ⟨d, xs, ut, c1, c2, c3, c4, c5, c6, c7, c8, c9, c10, c11, c12⟩ hk
        refine ⟨d, xs, ut, (if_neg (by decide)).trans c1, (if_neg (by decide)).trans c2, (if_neg (by decide)).trans c3, dh_keep c4 fun b o hb e => ?_, c5, c6, c7, fun z hz => ⟨(c8 z hz).1, (c8 z hz).2.keep fun o e => hk _ o (c8 z hz).1.2.2 (c8 z hz).1.2.1 e⟩, c9, c10, c11, fun b o hL e => hk b o (hneI b o e) hL (c12 b o hL e)⟩
        have hb2 : b ≠ hw.objs.size ∧ b ≠ s₁.heap.objs.size := by
          rcases hb with q | q
          · rw [q]; exact ⟨c7.2.2, c7.2.1⟩
          · obtain ⟨z, hz, rfl⟩ := List.mem_map.mp q
            exact ⟨(c8 z hz).1.2.2, (c8 z hz).1.2.1⟩
        exact hk b o hb2.1 hb2.2 e
      case fr0 =>
        intro i s' h' m' ⟨d, xs, ut, c1, c2, c3, c4, c5, c6, c7, c8, c9, c10, c11, c12⟩ hk
        refine ⟨d, xs, ut, c1, c2, c3, dh_keep c4 fun b o hb e => ?_, c5, c6, c7, fun z hz => ⟨(c8 z hz).1, (c8 z hz).2.keep fun o e => hk _ o (c8 z hz).1.2.2 e⟩, c9, c10, c11, fun b o hL e => hk b o (hneI b o e) (c12 b o hL e)⟩
        have hb2 : b ≠ hw.objs.size := by
          rcases hb with q | q
          · rw [q]; exact c7.2.2
          · obtain ⟨z, hz, rfl⟩ := List.mem_map.mp q
            exact (c8 z hz).1.2.2
        exact hk b o hb2 e
      case z =>
        refine ⟨_, [], _, rfl, rfl, by rw [← hcn]; rfl, dh_keep dh0 fun b o _ e => hup b o e, DS.nil, by assumption, ⟨Nd.2.2, Nd.2.1, hneI _ _ Nd.1⟩, (fun z hz => nomatch hz), hbw, rfl, rfl, fun b o _ e => hup b o e⟩
      case st =>
        intro i v m' s' E' hvi ⟨d, xs, ut, c1, c2, c3, c4, c5, c6, c7, c8, c9, c10, c11, c12⟩ hn hword hIo
        obtain ⟨x, t, hxi, rfl⟩ := hAw.get hvi
        have hxi' : (wordsL n)[i]? = some x := hxi
        have hmem : x ∈ wordsL n := List.mem_of_getElem? hxi'
        have ok := words_ok n hn1 hn4 x hmem
        have fitx := rows_fit n hn4 x (List.mem_filter.mp (show x ∈ List.filter okW (rowsL n n) from hmem)).1
        have fit0 := rows_fit n hn4 (firstW n) (List.mem_filter.mp (show firstW n ∈ List.filter okW (rowsL n n) from List.mem_of_getElem? (words_head n hn1 hn4))).1
        simp only [wordOK, fitW, Bool.and_eq_true, decide_eq_true_eq] at ok fitx fit0
        obtain ⟨ok1, ok2, ok3, ok4, ok5, ok6, ok7⟩ := ok
        have lx := fitx.2.2.2
        have l0 := fit0.2.2.2
        have hx0' : ysw.toArray[0]? = some (.str (firstW n) t0) := by simpa using hx0
        have kbs : ∀ b o, (ghostOf s₁.heap [(62, 58), (55, 51)]).get? b = some o → s'.heap.get? b = some o := fun b o e => c12 b o (Nat.ne_of_lt (Nat.lt_of_lt_of_le (Heap.lt_size e) F1.above)) (kbw b o e)
        have F4 : Fr (ghostOf s₁.heap [(62, 58), (55, 51)]) s₁.heap.objs.size s'.heap m' := ⟨hn, kbs, F1.above⟩
        have N4 : News (ghostOf s₁.heap [(62, 58), (55, 51)]) s₁.heap.objs.size s'.heap [((51 : Nat), tabObj #[])] := List.forall_mem_cons.mpr ⟨⟨c12 _ _ N51.2.1 N51.1, N51.2⟩, fun _ hp => nomatch hp⟩
        refine wpAny_execs_cons (wpAny_Assign_Name (callK2 F4 X' T' (by k_is) (by k_is) rfl rfl rfl (by decide) rfl rfl rfl (wpAny_Name (wpAny_loadName_local rfl rfl hn c1 (dict1 rfl ?hru (fun h' hk => (Ev.count rfl rfl rfl (Ev.name rfl rfl (by decide) (hn.at fun o e => hk _ o e) hword ⟨t, rfl⟩) Ev.str)) ?_)) (by decide))))
        case hru => exact (show (4 + 3 : Nat) < cLine from by decide)
        intro S T1 h5 tk5 u5 hk5 hS5 hT5 hD5 hP5
        have F5 := F4.keeps hk5
        have N5 := N4.grown hk5
        refine ⟨X'.keeps F5.keep, ?_⟩
        refine c_add (c1 := 1) B' F5 X' N5 T' rfl ?hd ?hu (dh_keep c4 fun b o _ e => hk5 b o e) hD5 c6 (not_sys' T' F4 hS5) ?hz c5.ints ?_
        case hd => k_room
        case hu => decide
        case hz =>
          have h1 := c5.length
          have h2 := topsD_length ((wordsL n).take i)
          have h3 := topsD_len n hn1 hn4
          rw [List.length_take] at h2
          omega
        intro D h6 tk6 v' hv' hk6 hDf hDs hD6 hyD F6
        refine wpAny_storeName_local rfl F6.ns (fun h7 hn7 hs7 => ?_) rfl
        replace hs7 : Heap.SameBut s₁.heap.objs.size h6 h7 := hs7
        have k7 : ∀ b o, b ≠ s₁.heap.objs.size → s'.heap.get? b = some o → h7.get? b = some o := fun b o hL e => hs7.extBut b o hL (hk6 b o (hk5 b o e))
        have F7 := F6.set hn7 hs7
        have N7 : News (ghostOf s₁.heap [(62, 58), (55, 51)]) s₁.heap.objs.size h7 [((51 : Nat), tabObj #[])] := List.forall_mem_cons.mpr ⟨⟨k7 _ _ N51.2.1 (N4 _ (List.Mem.head _)).1, N51.2⟩, fun _ hp => nomatch hp⟩
        have NAD : NewA (ghostOf s₁.heap [(62, 58), (55, 51)]) s₁.heap.objs.size hw.objs.size D := newA_fresh F5 (let ⟨o, ho⟩ := hIo; ⟨o, hk5 _ o ho⟩) hDf
        have NAT : NewA (ghostOf s₁.heap [(62, 58), (55, 51)]) s₁.heap.objs.size hw.objs.size T1 := newA_fresh F4 hIo (none_of_le hT5)
        have NAs := mem_stored_addr (k := keyT (Txt.count x sOC)) (v := v') (fun z hz => (c8 z hz).1) NAT
        have PKs := mem_stored_addr (k := keyT (Txt.count x sOC)) (v := v') (P := PK h7) (fun z hz => (c8 z hz).2.keep fun o e => k7 _ o (c8 z hz).1.2.1 e) (hP5.keep fun o e => hs7.extBut _ o NAT.2.1 (hk6 _ o e))
        have hD7 := dh_keep (h' := h7) hD6 fun b o hb e => hs7.extBut b o (by
          rcases hb with q | q
          · rw [q]; exact NAD.2.1
          · obtain ⟨z, hz, rfl⟩ := List.mem_map.mp q
            exact (NAs z hz).2.1) e
        have hds := c5.stored (a1 := T1) (dh_nodup c4) hv'
        rw [← topsD_snoc, show (wordsL n).take i ++ [x] = (wordsL n).take (i + 1) from by rw [List.take_add_one, hxi']; rfl] at hds
        have hWs : s'.heap.get? W = some (listOf ysw.toArray kw) := c12 _ _ hWne hWk
        have hW7 : h7.IsList W ysw.toArray := ⟨_, k7 _ _ hWne hWs, rfl, kw, rfl⟩
        have hw7 := (if_neg (by decide) : (if Str.ofString "word" = Str.ofString "calls" then some (Value.ref D) else m' (Str.ofString "word")) = m' (Str.ofString "word")).trans hword
        have hs7' := (if_neg (by decide) : (if Str.ofString "words" = Str.ofString "calls" then some (Value.ref D) else m' (Str.ofString "words")) = m' (Str.ofString "words")).trans c2
        have hc7 := (if_neg (by decide) : (if Str.ofString "count" = Str.ofString "calls" then some (Value.ref D) else m' (Str.ofString "count")) = m' (Str.ofString "count")).trans c3
        have big : (100 : Nat) ≤ sizeLine := by decide
        have lo : (Str.ofString "(").length = 1 := by decide
        have lc : (Str.ofString ")").length = 1 := by decide
        have hz1 : (Str.ofString "(").length + x.length ≤ sizeLine := by omega
        have hz2 : (Str.ofString "(" ++ x).length + (Str.ofString ")").length ≤ sizeLine := by
          have := PySem.size_cat (Str.ofString "(") x
          omega
        have hz3 : x.length + (firstW n).length ≤ sizeLine := by omega
        -- the first test
        refine wpAny_execs_cons (wpAny_If (wpAny_isTrue_BoolOp (wpAny_allTrue_Or_cons (Ev.ne (Ev.count rfl rfl rfl (Ev.name (m := fun z => if z = Str.ofString "calls" then some (Value.ref D) else m' z) rfl rfl (by decide) hn7 hw7 ⟨t, rfl⟩) Ev.str) (Ev.sub (Ev.count rfl rfl rfl (Ev.name (m := fun z => if z = Str.ofString "calls" then some (Value.ref D) else m' z) rfl rfl (by decide) hn7 hw7 ⟨t, rfl⟩) Ev.str) Ev.int) rfl (fun tk8 => ?_)))))
        rw [show (Txt.count x (Str.ofString ")(") != Txt.count x (Str.ofString "()") - 1) = false from by rw [bne_eq_false_iff_eq]; exact ok1, if_neg Bool.false_ne_true]
        refine wpAny_allTrue_Or_cons (Ev.ne (Ev.count rfl rfl rfl (Ev.cat (Ev.cat Ev.str (Ev.name (m := fun z => if z = Str.ofString "calls" then some (Value.ref D) else m' z) rfl rfl (by decide) hn7 hw7 ⟨t, rfl⟩) hz1) Ev.str hz2) Ev.str) (Ev.count rfl rfl rfl (Ev.name (m := fun z => if z = Str.ofString "calls" then some (Value.ref D) else m' z) rfl rfl (by decide) hn7 hw7 ⟨t, rfl⟩) Ev.str) rfl (fun tk9 => ?_))
        rw [show (Txt.count (Str.ofString "(" ++ x ++ Str.ofString ")") (Str.ofString "()") != Txt.count x (Str.ofString "()")) = false from by rw [bne_eq_false_iff_eq]; exact ok2, if_neg Bool.false_ne_true]
        refine wpAny_allTrue_Or_nil ?_
        rw [if_neg Bool.false_ne_true]
        refine wpAny_execs_nil ?_
        -- the second test
        refine wpAny_execs_cons (wpAny_If (wpAny_isTrue_BoolOp (wpAny_allTrue_Or_cons (wpAny_isTrue_Not (wpAny_isTrue_value (callK1 F7 X' T' (by k_is) (by k_is) rfl rfl rfl (by decide) rfl (Ev.use (Ev.cat (Ev.cat Ev.str (Ev.name (m := fun z => if z = Str.ofString "calls" then some (Value.ref D) else m' z) rfl rfl (by decide) hn7 hw7 ⟨t, rfl⟩) hz1) Ev.str hz2) (fun v tkA hv => ?_))))))))
        obtain ⟨tA, rfl⟩ := hv
        refine ⟨X'.keeps F7.keep, ?_⟩
        refine chk (b := true) (List.Mem.head _) ok3.1 ok3.2.1 ok3.2.2.1 (by exact decide_eq_true ok4) c9 B' F7 X' N7 T' rfl ?hd ?hq
        case hd => k_room
        case hq =>
        intro h8 tk8 g8 hb8 k8 F8 N8
        have hn8 := F8.ns
        refine wpAny_truthy_bool ?_
        rw [if_neg (by decide)]
        refine wpAny_allTrue_Or_cons (wpAny_isTrue_Not (wpAny_isTrue_value (callK1 F8 X' T' (by k_is) (by k_is) rfl rfl rfl (by decide) rfl (Ev.use (Ev.cat (Ev.name (m := fun z => if z = Str.ofString "calls" then some (Value.ref D) else m' z) rfl rfl (by decide) hn8 hw7 ⟨t, rfl⟩) (Ev.head (Ev.name (m := fun z => if z = Str.ofString "calls" then some (Value.ref D) else m' z) rfl rfl (by decide) hn8 hs7' rfl) (hW7.at fun o e => k8 _ o e) hx0' (by intro _ _; rfl)) hz3) (fun v tkB hv => ?_)))))
        obtain ⟨tB, rfl⟩ := hv
        refine ⟨X'.keeps F8.keep, ?_⟩
        refine chk (b := true) (List.Mem.head _) ok5.1 ok5.2.1 ok5.2.2.1 (by exact decide_eq_true ok6) hb8 B' F8 X' N8 T' rfl ?hd ?hq
        case hd => k_room
        case hq =>
        intro h9 tk9 g9 hb9 k9 F9 N9
        have hn9 := F9.ns
        have hW9 : h9.IsList W ysw.toArray := (hW7.at fun o e => k8 _ o e).at fun o e => k9 _ o e
        refine wpAny_truthy_bool ?_
        rw [if_neg (by decide)]
        refine wpAny_allTrue_Or_nil ?_
        rw [if_neg Bool.false_ne_true]
        refine wpAny_execs_nil ?_
        -- the third test
        refine wpAny_execs_cons (wpAny_If (Ev.ne (Ev.count rfl rfl rfl (Ev.cat (Ev.name (m := fun z => if z = Str.ofString "calls" then some (Value.ref D) else m' z) rfl rfl (by decide) hn9 hw7 ⟨t, rfl⟩) (Ev.head (Ev.name (m := fun z => if z = Str.ofString "calls" then some (Value.ref D) else m' z) rfl rfl (by decide) hn9 hs7' rfl) hW9 hx0' (by intro _ _; rfl)) hz3) Ev.str) (Ev.add (Ev.count rfl rfl rfl (Ev.name (m := fun z => if z = Str.ofString "calls" then some (Value.ref D) else m' z) rfl rfl (by decide) hn9 hw7 ⟨t, rfl⟩) Ev.str) (Ev.count rfl rfl rfl (Ev.head (Ev.name (m := fun z => if z = Str.ofString "calls" then some (Value.ref D) else m' z) rfl rfl (by decide) hn9 hs7' rfl) hW9 hx0' (by intro _ _; rfl)) Ev.str)) rfl (fun tkC => ?_)))
        rw [show (Txt.count (x ++ firstW n) (Str.ofString "()") != Txt.count x (Str.ofString "()") + Txt.count (firstW n) (Str.ofString "()")) = false from by rw [bne_eq_false_iff_eq]; exact ok7, if_neg Bool.false_ne_true]
        refine wpAny_execs_nil (wpAny_execs_nil ⟨rfl, _, hn9, ⟨D, storedH xs (keyT (Txt.count x sOC)) T1 v', ut, if_pos rfl, hs7', hc7, dh_keep hD7 fun b o _ e => k9 b o (k8 b o e), hds, hDs, NAD, fun z hz => ⟨NAs z hz, (PKs z hz).keep fun o e => k9 _ o (k8 _ o e)⟩, hb9, c10, c11, fun b o hL e => k9 b o (k8 b o (k7 b o hL (c12 b o hL e)))⟩, ?_⟩)
        intro b hb o e
        have hbL : b ≠ s₁.heap.objs.size := by
          rcases hb with q | q
          · rw [q]; exact Nat.ne_of_gt hLsz
          · rw [q]; exact hWne
        exact k9 b o (k8 b o (k7 b o hbL e))
      case dn =>
        intro s' m' hn ⟨d, xs, ut, c1, c2, c3, c4, c5, c6, c7, c8, c9, c10, c11, c12⟩
        obtain ⟨hp, gs, dr, tke, os⟩ := s'
        dsimp only at c4 c8 c9 c10 c11 c12 hn
        subst c10 c11
        rw [show ysw.length = (wordsL n).length from hAw.length, List.take_length] at c5
        have kbs : ∀ b o, (ghostOf s₁.heap [(62, 58), (55, 51)]).get? b = some o → hp.get? b = some o := fun b o e => c12 b o (Nat.ne_of_lt (Nat.lt_of_lt_of_le (Heap.lt_size e) F1.above)) (kbw b o e)
        have F9 := fr_named (⟨hn, kbs, F1.above⟩ : Fr (ghostOf s₁.heap [(62, 58), (55, 51)]) s₁.heap.objs.size hp m') c3 c1 c2
        obtain ⟨es, ep, hod⟩ := dict_obj c4
        have hKn := knows_of c4 (fun z hz => (c8 z hz).2) hod
        have NK := news_dl hod c7 c8
        have e58 := c12 _ _ N58.2.1 N58.1
        have e51 := c12 _ _ N51.2.1 N51.1
        have d58 := dict_ne c4 e58
        have d51 := dict_ne c4 e51
        have k58 := fun z hz => pk_ne (c8 z hz).2 e58
        have k51 := fun z hz => pk_ne (c8 z hz).2 e51
        have N9 : News (ghostOf s₁.heap [(62, 58), (55, 51)]) s₁.heap.objs.size hp ((W, listOf ysw.toArray kw) :: ((58 : Nat), tabObj #[]) :: ((51 : Nat), tabObj #[]) :: dlOf hp d { cls := .type "dict", data := .dict es ep } xs) :=
          List.forall_mem_cons.mpr ⟨⟨c12 _ _ hWne hWk, hWne, none_of_le (Nat.le_trans (Nat.le_trans F1.above (Nat.le_of_lt hLW)) (Nat.le_refl _))⟩, List.forall_mem_cons.mpr ⟨⟨e58, N58.2⟩, List.forall_mem_cons.mpr ⟨⟨e51, N51.2⟩, NK⟩⟩⟩
        have hds := c5
        have hints := c5.ints
        have hWlen := hAw.length
        have h58 : 58 < W := by
          have := ‹58 < s₁.heap.objs.size ∧ 51 < s₁.heap.objs.size›
          omega
        clear hup hneI kbw N58 N51 Nd N3 N1 F1 F3 dh0 hnsw hWk hx0 keepw hlt1 keep1 hA1 kbs c1 c2 c3 NK c4 c7 c8 hod e58 e51 hn c12
        clear F' N'
        rw [hcn] at *
        refine (show wpAny _ _ (execs _ _) _ _ _ from ?_)
        obtain ⟨w2, cc, HF⟩ := head_facts n hn1 hn4
        have g1 := HF.f1
        have g2 := HF.f2
        have hsum : sumD xs = cc := c5.sum.trans HF.f6
        have hwl : ((ysw.toArray.size : Nat) : Int) = cc := by rw [List.size_toArray, hAw.length]; exact HF.f5
        have hwl2 : cc < 2 ^ 63 := by
          rw [← hwl]
          have h1 := topsD_len n hn1 hn4
          have h2 := hAw.length
          have h3 : (wordsL n).length = (List.filter okW (rowsL n n)).length := rfl
          rw [List.size_toArray]
          omega
        have hxl : xs.length ≤ 1000 := by
          have h1 := c5.length
          have h2 := topsD_length (wordsL n)
          have h3 := topsD_len n hn1 hn4
          omega
        have hmap := HF.f7
        have hpw := HF.f8
        have hp64 := HF.f9
        have hrs := HF.f10
        have hsm := HF.f11
        have hn24 := HF.f12
        have hdl : ∀ p ∈ dlOf hp d { cls := .type "dict", data := .dict es ep } xs, p.1 ≠ 51 ∧ p.1 ≠ 58 := List.forall_mem_cons.mpr ⟨⟨d51, d58⟩, fun p hp => by
          obtain ⟨z, hz, rfl⟩ := List.mem_map.mp hp
          exact ⟨k51 z hz, k58 z hz⟩⟩
        clear d58 d51 k58 k51 hAw
        generalize dlOf hp d { cls := .type "dict", data := .dict es ep } xs = dl at N9 hKn hdl
        clear hcn hfm hbw hWne hIsz hLsz hLW hWsz hb0 hWlen
        (try clear TE); (try clear TW); (try clear hD); (try clear hT8); (try clear Y); (try clear hcd); (try clear ho); (try clear B); (try clear V); (try clear X); (try clear T); (try clear G); (try clear lifted)
        k_steps
        refine (show wpAny _ _ (call (.ref 103) _) _ _ _ from ?_)
        with_reducible (k_here; k_dflt (refine' Mine.waysF ?hm ?B ?F ?X ?C55 ?C62 ?N ?O _ _ ?hy ?m1 ?m2 ?hy58 ?T ?hk ?hd ?_; (case B => k_asm); (case F => k_asm); (case X => k_asm); (case N => k_asm); (case T => k_asm); (case C55 => assumption); (case C62 => assumption); (case O => repeat (first | exact Mine.Off.all (by assumption) | exact Mine.Off.nil | (apply Mine.Off.keep; omega; omega) | apply Mine.Off.drop)); (case m1 => k_mem); (case m2 => k_mem); (case hy => exact List.Mem.head _); (case hy58 => omega); (case hm => with_reducible assumption); (case hk => exact rfl); (case hd => k_room); k_whole; intro c51' c58' oc' od' h' tk' u' i1 i2 o1 o2 l1 l2 F' N'; (try simp only [AllLt, and_true] at l1 l2); (try k_sweep)))
        k_steps
        refine (show wpAny _ _ (call (.ref 77) _) _ _ _ from ?_)
        with_reducible (k_here; k_dflt (refine' Mine.idm ?hR ?hco ?hco8 ?h51 ?h58 ?B ?F ?X ?C55 ?C62 ?N ?m1 ?m2 ?m3 ?m4 ?T ?hk ?hd ?_; (case B => k_asm); (case F => k_asm); (case X => k_asm); (case N => k_asm); (case T => k_asm); (case C55 => assumption); (case C62 => assumption); (case m1 => k_mem); (case m2 => k_mem); (case m3 => k_mem); (case m4 => k_mem); (case hco => with_reducible assumption); (case hco8 => with_reducible assumption); (case h51 => omega); (case h58 => omega); (case hR => with_reducible assumption); (case hk => exact rfl); (case hd => k_room); k_whole; intro D' h' tk' u' v' l1 F' N'; (try simp only [AllLt, and_true] at l1); (try k_sweep)))
        k_steps
        refine (show wpAny _ _ (call (.ref 91) _) _ _ _ from ?_)
        with_reducible (k_here; k_dflt (refine' Mine.cntK (List.Mem.head _) ?hK ?hsub ?hr ?hdS ?hint ?B ?F ?X ?N ?T ?hk ?hd ?_; (case B => k_asm); (case F => k_asm); (case X => k_asm); (case N => k_asm); (case T => k_asm); (case hK => with_reducible assumption); (case hsub => (intro p hp; repeat (first | exact hp | refine List.Mem.tail _ ?_))); (case hr => with_reducible assumption); (case hdS => with_reducible assumption); (case hint => with_reducible assumption); (case hk => exact rfl); (case hd => k_room); k_whole; intro h' tk' u' F' N'; (try k_sweep)))
        k_steps
        all_goals (first | (exfalso; omega) | (exfalso; simp_all; done) | skip)
        refine (show wpAny _ _ (call (.builtin _) _) _ _ _ from ?_)
        with_reducible (k_dflt (refine' Mine.L_len ?l9 ?hk9 ?hf9 ?_; (case l9 => is_list); (case hk9 => with_reducible assumption); (case hf9 => with_reducible assumption); k_whole))
        k_steps
        all_goals (first | (exfalso; omega) | (exfalso; simp_all; done) | skip)
        rename Fr _ _ _ _ => F'
        rename News _ _ _ _ => N'
        refine (show wpAny _ _ _ _ _ _ from ?_)
        refine wpAny_For (callT2 (T := "range") (T'.g.keeps F'.keep) (mg_none_of X' T'.g (by k_is)) (T'.b.keeps F'.keep) ((T'.builtins _ (by decide)).trans (by decide +kernel)) rfl rfl (by decide) rfl (wpAny_Constant_int (Ev.use (Ev.add (Ev.name rfl rfl (by decide) F'.ns rfl ⟨_, rfl⟩) Ev.int) (fun v tkr hv => ?_)))) (by intro _; rfl)
        obtain ⟨tv, rfl⟩ := hv
        refine call_range_2 (wpAny_pyIter_range (IsRange.new ..) hsm ?_)
        refine rangeLoop (a := 1) (N := n) (fun m => m (Str.ofString "count") = some (.int n ut) ∧ m (Str.ofString "calls") = some (.ref d)) rfl rfl rfl rfl ?hM ?hI ?hIn ?step (hit := ?hit) (F'.keeps ?up) (N'.grown ?up2) ⟨rfl, rfl⟩ ?done
        case hM =>
          intro m₁ u ⟨e1, e2⟩
          exact ⟨(if_neg (by decide)).trans e1, (if_neg (by decide)).trans e2⟩
        case hI => exact news_ne2 N'
        case hIn => exact fr_new2 F'
        case hit => rw [hrs]; exact Heap.get?_push_size _ rfl
        case up => exact push2_up
        case up2 => exact push2_up
        case step =>
          intro i s2 m2 tk2 io E2 hi ⟨e1, e2⟩ F2 N2
          replace F2 := fr_named2 F2 e1 e2
          clear F' N'
          obtain ⟨a, b, o, TF⟩ := turn_facts n i hn1 hn4 hi
          have t1 := TF.f1
          have t2 := TF.f2
          have t3 := TF.f3
          have t8 := TF.f8
          obtain ⟨q1, u1, t6, v1⟩ := c5.find TF.f6
          obtain ⟨q2, u2, t7, v2⟩ := c5.find TF.f7
          obtain ⟨hp2, gs2, dr2, tkk2, os2⟩ := s2
          dsimp only at F2 N2
          refine (show wpAny _ _ (execs _ _) _ _ _ from ?_)
          k_steps
          refine (show wpAny _ _ (call (.ref 103) _) _ _ _ from ?_)
          with_reducible (k_here; k_dflt (refine' Mine.ways ?hm ?hco ?hco8 ?h51 ?h58 ?B ?F ?X ?C55 ?C62 ?N ?m1 ?m2 ?m3 ?m4 ?T ?hk ?hd ?_; (case B => k_asm); (case F => k_asm); (case X => k_asm); (case N => k_asm); (case T => k_asm); (case C55 => assumption); (case C62 => assumption); (case m1 => k_mem); (case m2 => k_mem); (case m3 => k_mem); (case m4 => k_mem); (case hco => with_reducible assumption); (case hco8 => with_reducible assumption); (case h51 => omega); (case h58 => omega); (case hm => with_reducible assumption); (case hk => exact rfl); (case hd => k_room); k_whole; intro h' tk' u' F' N'; (try k_sweep)))
          k_steps
          refine (show wpAny _ _ (call (.ref 103) _) _ _ _ from ?_)
          with_reducible (k_here; k_dflt (refine' Mine.ways ?hm ?hco ?hco8 ?h51 ?h58 ?B ?F ?X ?C55 ?C62 ?N ?m1 ?m2 ?m3 ?m4 ?T ?hk ?hd ?_; (case B => k_asm); (case F => k_asm); (case X => k_asm); (case N => k_asm); (case T => k_asm); (case C55 => assumption); (case C62 => assumption); (case m1 => k_mem); (case m2 => k_mem); (case m3 => k_mem); (case m4 => k_mem); (case hco => with_reducible assumption); (case hco8 => with_reducible assumption); (case h51 => omega); (case h58 => omega); (case hm => with_reducible assumption); (case hk => exact rfl); (case hd => k_room); k_whole; intro h' tk' u' F' N'; (try k_sweep)))
          k_steps
          refine (show wpAny _ _ (call (.ref 77) _) _ _ _ from ?_)
          with_reducible (k_here; k_dflt (refine' Mine.idm ?hR ?hco ?hco8 ?h51 ?h58 ?B ?F ?X ?C55 ?C62 ?N ?m1 ?m2 ?m3 ?m4 ?T ?hk ?hd ?_; (case B => k_asm); (case F => k_asm); (case X => k_asm); (case N => k_asm); (case T => k_asm); (case C55 => assumption); (case C62 => assumption); (case m1 => k_mem); (case m2 => k_mem); (case m3 => k_mem); (case m4 => k_mem); (case hco => with_reducible assumption); (case hco8 => with_reducible assumption); (case h51 => omega); (case h58 => omega); (case hR => with_reducible assumption); (case hk => exact rfl); (case hd => k_room); k_whole; intro D' h' tk' u' v' l1 F' N'; (try simp only [AllLt, and_true] at l1); (try k_sweep)))
          k_steps
          all_goals (first | (exfalso; omega) | (exfalso; simp_all; done) | skip)
          refine (show wpAny _ _ (eval _ _) _ _ _ from ?_)
          with_reducible (k_here; k_dflt (refine' Mine.getK ?hK ?hsub ?hdS ?F ?N ?hL ?hk ?hx ?hcalls ?hu ?hbase ?hline ?hs2 ?hs ?he ?hat ?hq ?_; (case F => k_asm); (case N => k_asm); (case hL => exact rfl); (case hk => exact rfl); (case hx => exact rfl); (case hcalls => exact rfl); (case hK => with_reducible assumption); (case hsub => (intro p hp; repeat (first | exact hp | refine List.Mem.tail _ ?_))); (case hdS => with_reducible assumption); (case hu => exact (show (4 + 3 + 1 : Nat) < PySem.cLine from by decide)); (case hbase => exact rfl); (case hline => exact rfl); (case hs2 => exact rfl); (case hs => exact rfl); (case he => first | exact Mine.Ev.name rfl rfl (by decide) (Fr.ns (by k_asm)) rfl ⟨_, rfl⟩ | exact Mine.Ev.sub (Mine.Ev.add (Mine.Ev.name rfl rfl (by decide) (Fr.ns (by k_asm)) rfl ⟨_, rfl⟩) Mine.Ev.int) (Mine.Ev.name rfl rfl (by decide) (Fr.ns (by k_asm)) rfl ⟨_, rfl⟩)); (case hat => with_reducible assumption); (case hq => with_reducible assumption); k_whole; intro h' tk' u' F' N'; (try k_sweep)))
          k_steps
          all_goals (first | (exfalso; omega) | (exfalso; simp_all; done) | skip)
          refine (show wpAny _ _ (eval _ _) _ _ _ from ?_)
          with_reducible (k_here; k_dflt (refine' Mine.getK ?hK ?hsub ?hdS ?F ?N ?hL ?hk ?hx ?hcalls ?hu ?hbase ?hline ?hs2 ?hs ?he ?hat ?hq ?_; (case F => k_asm); (case N => k_asm); (case hL => exact rfl); (case hk => exact rfl); (case hx => exact rfl); (case hcalls => exact rfl); (case hK => with_reducible assumption); (case hsub => (intro p hp; repeat (first | exact hp | refine List.Mem.tail _ ?_))); (case hdS => with_reducible assumption); (case hu => exact (show (4 + 3 + 1 : Nat) < PySem.cLine from by decide)); (case hbase => exact rfl); (case hline => exact rfl); (case hs2 => exact rfl); (case hs => exact rfl); (case he => first | exact Mine.Ev.name rfl rfl (by decide) (Fr.ns (by k_asm)) rfl ⟨_, rfl⟩ | exact Mine.Ev.sub (Mine.Ev.add (Mine.Ev.name rfl rfl (by decide) (Fr.ns (by k_asm)) rfl ⟨_, rfl⟩) Mine.Ev.int) (Mine.Ev.name rfl rfl (by decide) (Fr.ns (by k_asm)) rfl ⟨_, rfl⟩)); (case hat => with_reducible assumption); (case hq => with_reducible assumption); k_whole; intro h' tk' u' F' N'; (try k_sweep)))
          k_steps
          all_goals (first | (exfalso; omega) | (exfalso; simp_all; done) | skip)
          rename Fr _ _ _ _ => F5
          rename News _ _ _ _ => N5
          exact ⟨rfl, _, _, _, rfl, ⟨rfl, rfl⟩, F5, fun p hp => N5 p (by repeat (first | exact hp | refine List.Mem.tail _ ?_))⟩
        case done =>
          intro h3 tk3 m3 ⟨e1, e2⟩ F3 N3
          replace F3 := fr_named3 F3 e1 e2
          clear F' N'
          refine (show wpAny _ _ (execs _ _) _ _ _ from ?_)
          k_steps
          refine (show wpAny _ _ (eval _ _) _ _ _ from ?_)
          with_reducible (k_here; k_dflt (refine' Mine.topsK ?hDS ?hl ?hK ?hsub ?hdS ?hz ?hh ?F ?N ?hL ?hk ?hx ?hcalls ?hfree ?hcell ?hkind ?hnames ?hxs ?hs ?htg ?_; (case F => k_asm); (case N => k_asm); (case hL => exact rfl); (case hk => exact rfl); (case hx => exact rfl); (case hcalls => exact rfl); (case hK => with_reducible assumption); (case hDS => with_reducible assumption); (case hl => with_reducible assumption); (case hsub => (intro p hp; repeat (first | exact hp | refine List.Mem.tail _ ?_))); (case hdS => with_reducible assumption); (case hz => with_reducible assumption); (case hh => exact rfl); (case hfree => decide); (case hcell => decide); (case hkind => exact rfl); (case hnames => decide); (case hxs => exact rfl); (case hs => (intro _; exact rfl)); (case htg => (intro _ _; exact rfl)); k_whole; intro R' h' tk' ys' j' hA' F' N'; (try k_sweep)))
          k_steps
          refine (show wpAny _ _ (call _ _) _ _ _ from ?_)
          with_reducible (k_here; k_dflt (refine' Mine.sortK ?F ?N ?hm ?hI ?hs ?h64 ?_; (case F => k_asm); (case N => k_asm); (case hm => k_mem); (case hI => with_reducible assumption); (case hs => with_reducible assumption); (case h64 => with_reducible assumption); k_whole; intro R' ys' j' h' hA' l1 F' N'; (try simp only [AllLt, and_true] at l1); (try k_sweep)))
          k_steps
          refine (show wpAny _ _ (call _ _) _ _ _ from ?_)
          with_reducible (k_here; k_dflt (refine' Mine.listG ?hh ?F ?N ?hr ?hn ?hsmall ?hz ?_; (case hh => exact rfl); (case F => k_asm); (case N => k_asm); (case hr => with_reducible assumption); (case hn => with_reducible assumption); (case hsmall => with_reducible assumption); (case hz => with_reducible assumption); k_whole; intro R' ys' j' h' tk' hA' l1 F' N'; (try simp only [AllLt, and_true] at l1); (try k_sweep)))
          k_steps
          refine (show wpAny _ _ (compareOp _ _ _) _ _ _ from ?_)
          with_reducible (k_here; k_dflt (refine' Mine.eqK ?N ?h1 ?h2 ?i1 ?i2 ?hu ?_; (case N => k_asm); (case h1 => k_mem); (case h2 => k_mem); (case i1 => with_reducible assumption); (case i2 => with_reducible assumption); (case hu => exact (show (4 + 3 : Nat) < PySem.cLine from by decide)); k_whole))
          k_steps
          all_goals exact c9
end Mine
end
theorem PySem.Challenge.cw_gg0006_01_holds : PySem.Challenge.rw_gg0006_01.Holds := by
  exact Mine.t2
