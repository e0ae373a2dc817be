/-
  FnMatrix: its parts as laws.
-/
import Derived.Test.YtdeejmkjhmpabaaGreatDoorX1
import Derived.Test.YtdeejmkjhmpabaaGreatDoorDa
import Derived.Test.YtdeejmkjhmpabaaGreatDoorM5
import Derived.Deep.CutBlock
import Derived.Deep.CutRange
import Derived.Deep.RegionHeld3
import Derived.Deep.RegionLaw
import Derived.Laws.AppendOwnNone
import Derived.IntWalk
import Derived.Lib.Join
namespace Go.Proofs.YtdeejmkjhmpabaaGreatDoor
open Go.RowKit Go.Lib Go.Maps Go.WideMaps

/-- The slice a holds whole numbers. -/
def IntsAt (w : World) (a : Option Addr) (ps : List Int) : Prop :=
  ∀ i x, ps[i]? = some x → ∃ b o, a = some ⟨b, o, none⟩ ∧ w.cell? ⟨b, o + i, none⟩ = some (.int .i64 x)

theorem PtsFix.below {w w' : World} {a : Option Addr} {L : List Pt} {S : Nat → PtM} (h : PtsFix w a L S) (hb : Below w.heap.size w w') : PtsFix w' a L S := by
  intro i x hx
  obtain ⟨⟨b, o, ha, h0, h1, h2⟩, h3, h4⟩ := h i x hx
  have hlt : b < w.heap.size := World.block_lt_of_cell? w _ h1
  exact ⟨⟨b, o, ha, (hb.cell (p := ⟨b, o + i * 3, none⟩) hlt).trans h0, (hb.cell (p := ⟨b, o + i * 3 + 1, none⟩) hlt).trans h1, (hb.cell (p := ⟨b, o + i * 3 + 2, none⟩) hlt).trans h2⟩, h3.below hb, h4⟩

theorem IntsAt.below {w w' : World} {a : Option Addr} {ps : List Int} (h : IntsAt w a ps) (hb : Below w.heap.size w w') : IntsAt w' a ps := by
  intro i x hx
  obtain ⟨b, o, ha, h0⟩ := h i x hx
  exact ⟨b, o, ha, (hb.cell (p := ⟨b, o + i, none⟩) (World.block_lt_of_cell? w _ h0)).trans h0⟩


/-- append of an own row onto an empty one that has just been made. -/
theorem wp_left {ops : Array Oper} {rest : List Oper} {o : Oper} {a : Act} {Q : Exit → Act → World → Prop} (w : World) (hgd : o.guard = none) (s x : Operand)
    (ho : o.op = .call { callee := .builtin .append, args := #[s, x], argTypes := #[29, 29] }) (base0 : Nat) (ad : Option Addr) (n cp : Nat) (xs : List Value)
    (hs : a.eval s = .slice (some ⟨w.heap.size, 0, none⟩) 0 0) (hx : a.eval x = .slice ad n cp) (hrow : w.ownsRow base0 37 2 (.slice ad n cp) n xs) (h1 : ∀ u ∈ xs, u.oneCell' = true) (hn : n ≤ 1000)
    (h : ∀ v' w', w'.ownsRow w.heap.size 37 2 v' n xs → Below w.heap.size w w' → wpList Tryz.prog ops Q rest (a.put o.dst v') w') :
    wpList Tryz.prog ops Q (o :: rest) a (w.alloc (.cells #[] 37)) := by
  obtain ⟨i, hi, hz0, hz1, hz2⟩ := info_parts info37
  have hown : (w.alloc (.cells #[] 37)).ownsRow w.heap.size 37 2 (.slice (some ⟨w.heap.size, 0, none⟩) 0 0) 0 [] := World.ownsRow_lit w #[] 0 (Nat.le_refl _) (Nat.zero_le _) rfl
  obtain ⟨ad', cp', he, _, _, hnone, hsome⟩ := ownsRow_form hrow
  cases he
  cases ad with
  | none =>
    obtain ⟨rfl, rfl⟩ := hnone rfl
    have hxs : xs = [] := List.eq_nil_of_length_eq_zero (by have := hrow.1; omega)
    subst hxs
    exact wpList_append_own_none hgd s x 29 ho w.heap.size 37 i 2 Tryz.underlying29 hi _ 0 [] hs hown hx (h _ _ hown ((Below.refl _ _).alloc (Nat.le_refl _) _))
  | some d =>
    obtain ⟨hd, _, hdl⟩ := hsome d rfl
    obtain ⟨g, rfl⟩ : ∃ g, d = ⟨g, 0, none⟩ := ⟨_, hd⟩
    have hlen : xs.length = n * 2 := hrow.1
    have hadd : ∀ j, Addr.add ⟨g, 0, none⟩ j = ⟨g, j, none⟩ := fun j => by cases j <;> simp [Addr.add]
    refine wpList_append_own_at _ hgd s x 29 ho w.heap.size 37 i _ 2 48 Tryz.underlying29 hi hz0 hz1 hz2 rfl (by decide) _ 0 [] hs hown ⟨g, 0, none⟩ n cp xs hx hlen ?_ h1 ?_ ?_ (by simp) ?_
    · intro j u hj
      have hj' : j < n * 2 := by rw [← hlen]; exact (List.getElem?_eq_some_iff.1 hj).1
      rw [hadd, World.cell?_alloc_lt _ _ ⟨g, j, none⟩ hdl, ← hj, ← hrow.cellAt j hj']
    · unfold maxLen; omega
    · omega
    · intro v' w' k1 k2 _ _
      rw [List.nil_append, Nat.zero_add] at k1
      exact h v' w' k1 (((Below.refl _ _).alloc (Nat.le_refl _) _).grown k2 (by simp) (fun k hk => by cases hk; exact Nat.le_refl _))

def lenV : Value → Nat
  | .slice _ n _ => n
  | _ => 0

/-- The text of the streams C. -/
def linesT (st : Nat → Stm) (C : List Nat) : List UInt8 := Lib.join (C.map fun k => streamT (st k).1 (st k).2) [10]

theorem join_snoc (xs : List (List UInt8)) (y sep : List UInt8) : Lib.join (xs ++ [y]) sep = (if xs = [] then [] else Lib.join xs sep ++ sep) ++ y := by
  cases xs with
  | nil => simp [Lib.join_one]
  | cons x r =>
    rw [if_neg (by simp), List.cons_append, Lib.join_cons, Lib.join_cons]
    have h := Lib.joinTail_take_succ sep (r ++ [y]) r.length y (by simp)
    rw [List.take_of_length_le (by simp), List.take_left' rfl] at h
    rw [h]
    simp

theorem linesT_snoc (st : Nat → Stm) (C : List Nat) (x : Nat) : linesT st (C ++ [x]) = (if C = [] then [] else linesT st C ++ [10]) ++ streamT (st x).1 (st x).2 := by
  unfold linesT
  rw [List.map_append, List.map_cons, List.map_nil, join_snoc]
  simp only [List.map_eq_nil_iff]

theorem streamT_ne (l : List Lab) (prs : List Pr) : streamT l prs ≠ [] := by
  unfold streamT
  simp

theorem linesT_ne (st : Nat → Stm) (C : List Nat) (h : C ≠ []) : linesT st C ≠ [] := by
  cases C with
  | nil => exact absurd rfl h
  | cons x r =>
    unfold linesT
    rw [List.map_cons, Lib.join_cons]
    intro e
    exact streamT_ne _ _ (List.append_eq_nil_iff.1 e).1

/-- What is known of point x. -/
structure PtAll (L : List Pt) (ps : List Int) (S : Nat → PtM) (wr : World) (x : Nat) (p : Pt) : Prop where
  at_ : L[x]? = some p
  ok : PtOk p
  lab : LabsAt wr (S x).1 p.1
  nil : (S x).1 = none → (S x).2.1 = 0
  st : (stmsOf L ps)[x]! = (p.1, prsOf ps x)

theorem ord2_of (L : List Pt) (ps : List Int) (hok : AllOk L L.length) : Ord2 L.length (ltS fun k => (stmsOf L ps)[k]!) := by
  refine ⟨fun a => befT_irrefl _, fun a b c h k => befT_trans h k, fun a b ha hb hne => ?_⟩
  have h1 := List.getElem?_eq_getElem ha
  have h2 := List.getElem?_eq_getElem hb
  unfold ltS
  simp only [stmsOf_at L ps a _ h1, stmsOf_at L ps b _ h2]
  refine befT_total (hok.ok a _ ha h1).2.1.2 (hok.ok b _ hb h2).2.1.2 ?_
  rcases Nat.lt_or_gt_of_ne hne with h | h
  · exact fun e => hok.dif a b _ _ h hb h1 h2 e.symm
  · exact hok.dif b a _ _ h ha h2 h1

theorem row_at {L : List Pt} {m : Nat} {S : Nat → PtM} {Sp : Nat → Option Addr × Nat} {q : List Nat} {w : World} {base g nq cap i x : Nat} {p : Pt} (h : w.ownsRow base 37 2 (.slice (some ⟨g, 0, none⟩) nq cap) nq (rowS (stF L m S Sp) q)) (hq : nq = q.length) (hx : q[i]? = some x) (hp : L[x]? = some p) :
    w.cell? ⟨g, i * 2, none⟩ = some (.slice (S x).1 p.1.length (S x).2.1) ∧ w.cell? ⟨g, i * 2 + 1, none⟩ = some (.slice (Sp x).1 m (Sp x).2) ∧ g < w.heap.size := by
  have hi : i < nq := by rw [hq]; exact (List.getElem?_eq_some_iff.1 hx).1
  obtain ⟨h1, h2⟩ := rowS_get (stF_len L m S Sp) q i x hx
  obtain ⟨hx1, hx2⟩ := List.getElem?_eq_some_iff.1 hp
  have e : (L[x]!).1.length = p.1.length := by rw [getElem!_pos L x hx1, hx2]
  have c1 : w.cell? ⟨g, i * 2, none⟩ = some (.slice (S x).1 p.1.length (S x).2.1) := by
    rw [h.cellAt (i * 2) (by omega), h1]
    show some (Value.slice (S x).1 (L[x]!).1.length (S x).2.1) = _
    rw [e]
  exact ⟨c1, by rw [h.cellAt (i * 2 + 1) (by omega), h2]; rfl, World.block_lt_of_cell? w _ c1⟩

theorem lt_bef {L : List Pt} {ps : List Int} {S : Nat → PtM} {w : World} {x y : Nat} {p q : Pt} (hp : PtAll L ps S w x p) (hq : PtAll L ps S w y q) : (ltS fun k => (stmsOf L ps)[k]!) x y = befT p.1 q.1 := by
  unfold ltS
  simp only [hp.st, hq.st]

theorem stm_ok {ps : List Int} {p : Pt} {x : Nat} (hps : ∀ y ∈ ps, -562949953421312 < y ∧ y < 562949953421312) (hl : ps.length ≤ 6) (hp : PtOk p) (hx : x ≤ 6) : StmOk (p.1, prsOf ps x) := by
  refine ⟨hp.2.1.1, hp.2.1.2.names, fun q hq => ?_, by rw [prsOf_len]; exact hl⟩
  obtain ⟨h1, k, hk, h2⟩ := prsOf_mem ps x q hq
  refine ⟨hps _ h1, ?_, ?_⟩ <;> rw [h2] <;> omega

/-- append of a part of an own row onto its beginning. -/
theorem step_rem {ops : Array Oper} {o : Oper} {a : Act} {K : Act → World → Prop} {Q : Exit → Act → World → Prop} {E : Prop} (w : World) (hgd : o.guard = none) (s x : Operand)
    (ho : o.op = .call { callee := .builtin .append, args := #[s, x], argTypes := #[29, 29] }) (base g k cap m c : Nat) (ad : Addr) (xs news : List Value) (hs : a.eval s = .slice (some ⟨g, 0, none⟩) k cap)
    (hown : w.ownsRow base 37 2 (.slice (some ⟨g, 0, none⟩) k cap) k xs) (hx : a.eval x = .slice (some ad) m c) (hl : news.length = m * 2) (hnews : ∀ j u, news[j]? = some u → w.cell? (ad.add j) = some u)
    (h1 : ∀ u ∈ news, u.oneCell' = true) (hn : k + m ≤ 1000) (hbase : base ≤ w.heap.size)
    (h : ∀ v' w', w'.ownsRow base 37 2 v' (k + m) (xs ++ news) → w.grownBy w' (some g) → K (a.put o.dst v') w') :
    if Region.wanted o (yielded ops a.tmps) = true then Oper.wp Tryz.prog o a w K Q else E := by
  have hw : Region.wanted o (yielded ops a.tmps) = true := by simp [Region.wanted, hgd]
  rw [if_pos hw]
  obtain ⟨i, hi, hz0, hz1, hz2⟩ := info_parts info37
  refine wp_append_own _ s x 29 ho base 37 i _ 2 48 Tryz.underlying29 hi hz0 hz1 hz2 rfl (by decide) _ k xs hs hown ad m c news hx hl hnews h1 ?_ ?_ ?_ ?_
  · unfold maxLen; omega
  · omega
  · exact hbase
  · intro v' w' h1 h2 _
    exact h v' w' h1 h2

theorem streamT_split (l : List Lab) (prs : List Pr) (s1 s2 s3 mt : List UInt8) (h1 : mt = metricT l) (h2 : s2 = mt ++ [32, 61, 62, 10]) (h3 : s3 = s1 ++ s2) : s3 ++ Lib.join (textsT prs) [10] = s1 ++ streamT l prs := by
  subst h1 h2 h3
  unfold streamT
  simp

theorem join_take (T : List (List UInt8)) (j : Nat) (t : List UInt8) (h : T[j]? = some t) : Lib.join (T.take (j + 1)) [10] = (if j = 0 then [] else Lib.join (T.take j) [10] ++ [10]) ++ t := by
  rw [take_snoc' T j t h, join_snoc]
  by_cases hj : j = 0
  · subst hj; simp
  · rw [if_neg hj, if_neg]
    intro e
    rcases List.take_eq_nil_iff.1 e with e | e
    · exact hj e
    · subst e; simp at h

/-- What the removal of element k wants and gives. -/
theorem rem_facts {L : List Pt} {m : Nat} {S : Nat → PtM} {Sp : Nat → Option Addr × Nat} {q : List Nat} {w : World} {base g nq cap k : Nat} (h : w.ownsRow base 37 2 (.slice (some ⟨g, 0, none⟩) nq cap) nq (rowS (stF L m S Sp) q)) (hq : nq = q.length) (hk : k < nq) :
    w.ownsRow base 37 2 (.slice (some ⟨g, 0, none⟩) k cap) k ((rowS (stF L m S Sp) q).take (k * 2)) ∧ ((rowS (stF L m S Sp) q).drop ((k + 1) * 2)).length = (nq - (k + 1)) * 2 ∧
    (∀ j u, ((rowS (stF L m S Sp) q).drop ((k + 1) * 2))[j]? = some u → w.cell? ((⟨g, (k + 1) * 2, none⟩ : Addr).add j) = some u) ∧ (∀ u ∈ (rowS (stF L m S Sp) q).drop ((k + 1) * 2), u.oneCell' = true) ∧
    (rowS (stF L m S Sp) q).take (k * 2) ++ (rowS (stF L m S Sp) q).drop ((k + 1) * 2) = rowS (stF L m S Sp) (q.eraseIdx k) := by
  have hlen := rowS_len (stF_len L m S Sp) q
  refine ⟨ownsRow_take h k (by omega), by rw [List.length_drop, hlen, ← hq, Nat.sub_mul], fun j u hj => ?_, fun u hu => ?_, ?_⟩
  · rw [List.getElem?_drop] at hj
    have hlt := (List.getElem?_eq_some_iff.1 hj).1
    rw [hlen, ← hq] at hlt
    have e : (⟨g, (k + 1) * 2, none⟩ : Addr).add j = ⟨g, (k + 1) * 2 + j, none⟩ := by cases j <;> simp [Addr.add]
    rw [e, h.cellAt _ hlt, hj]
  · obtain ⟨x, _, hx⟩ := rowS_mem _ (List.mem_of_mem_drop hu)
    simp [stF] at hx
    rcases hx with rfl | rfl <;> rfl
  · rw [rowS_take (stF_len L m S Sp) q k (by omega), rowS_drop (stF_len L m S Sp) q (k + 1) (by omega), rowS_erase]

end Go.Proofs.YtdeejmkjhmpabaaGreatDoor
