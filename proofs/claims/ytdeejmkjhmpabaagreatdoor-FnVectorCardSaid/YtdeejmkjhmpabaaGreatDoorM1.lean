/-
  Maps of labels in use: looked up, counted, walked over; the strings collected of them.
-/
import Derived.Test.YtdeejmkjhmpabaaGreatDoorM0
import Derived.Maps.AppendAt
import Derived.Sort.KeysCollected
import Derived.Sort.OwnSorted
import Derived.Lib.Join
namespace Go.Proofs.YtdeejmkjhmpabaaGreatDoor
open Go.RowKit Go.Lib Go.Maps Go.WideMaps

/-- The value of a name. -/
def getT (l : List Lab) (k : List UInt8) : Option (List UInt8) := (l.find? (fun x => x.1 == k)).map Prod.snd

theorem getT_any (l : List Lab) (k : List UInt8) : (getT l k).isSome = l.any (fun x => x.1 == k) := by
  unfold getT
  induction l with
  | nil => rfl
  | cons x l ih =>
    rw [List.find?_cons, List.any_cons]
    cases x.1 == k with
    | true => rfl
    | false => simpa using ih

theorem getT_mem {l : List Lab} {k v : List UInt8} (h : getT l k = some v) : (k, v) ∈ l := by
  unfold getT at h
  obtain ⟨x, h1, rfl⟩ := Option.map_eq_some_iff.1 h
  have := List.mem_of_find?_eq_some h1
  have hk := List.find?_some h1
  have : x.1 = k := by simpa using hk
  subst this
  assumption

theorem names_eq {l : List Lab} (hn : Names l) {x y : Lab} (hx : x ∈ l) (hy : y ∈ l) (h : x.1 = y.1) : x = y := by
  induction l with
  | nil => cases hx
  | cons z l ih =>
    unfold Names at hn
    rw [List.map_cons, List.nodup_cons] at hn
    obtain ⟨h1, h2⟩ := hn
    rcases List.mem_cons.1 hx with rfl | hx' <;> rcases List.mem_cons.1 hy with rfl | hy'
    · rfl
    · exact absurd (List.mem_map.2 ⟨y, hy', h.symm⟩) h1
    · exact absurd (List.mem_map.2 ⟨x, hx', h⟩) h1
    · exact ih h2 hx' hy'

theorem getT_of {l : List Lab} (hn : Names l) {x : Lab} (hx : x ∈ l) : getT l x.1 = some x.2 := by
  have h1 : (getT l x.1).isSome = true := by rw [getT_any, List.any_eq_true]; exact ⟨x, hx, by simp⟩
  obtain ⟨v, hv⟩ := Option.isSome_iff_exists.1 h1
  have := names_eq hn (getT_mem hv) hx rfl
  rw [hv, ← this]

theorem lit_inj {a b : List UInt8} (h : (DataW.lit (.string a) : DataW Unit) = .lit (.string b)) : a = b := Lit.string.inj (DataW.lit.inj h)

/-- m[k], with ok. -/
theorem map_look {t : TypeId} (ht : Tryz.prog.underlying t = some (.map 111 110)) {w : World} {b : Nat} {l : List Lab} (h : MapAt w b l) (hN : Names l) (k : List UInt8) (hk : k.length ≤ 1000) :
    (Instr.lookup t (.map (some b)) (.string ⟨k.toArray⟩) true).run Tryz.prog w = .ok (.tuple #[.string ⟨((getT l k).getD []).toArray⟩, .bool (getT l k).isSome]) w := by
  have hz : (zeroValue 110).run Tryz.prog w = .ok (.string ⟨#[]⟩) w := by kernel_rfl
  obtain ⟨v, ps, hrun, hv⟩ := World.ownsMap.look_ok h keyed111 ht hz (elem_str [] (by simp)) (key_str k hk)
  rw [labMap_has, ← getT_any] at hrun
  rw [hrun]
  obtain ⟨s, rfl, hs, _⟩ := plainElem_string_inv Tryz.underlying110 hv
  have hat := congrArg Prod.fst hs
  dsimp only at hat
  have : s = ⟨((getT l k).getD []).toArray⟩ := by
    cases hg : getT l k with
    | none =>
      have hh : has (LabMap l) (.string k) = false := by rw [labMap_has, ← getT_any, hg]; rfl
      rw [atKey_of_not_has hh] at hat
      have e : ([] : List UInt8) = s.data.toList := lit_inj hat
      apply ByteArray.ext
      apply Array.ext'
      simpa using e.symm
    | some y =>
      have hm := getT_mem hg
      rw [labMap_at l _ hN _ hm] at hat
      have e : y = s.data.toList := lit_inj hat
      apply ByteArray.ext
      apply Array.ext'
      simpa using e.symm
  rw [this]

theorem map_len {t : TypeId} (ht : Tryz.prog.underlying t = some (.map 111 110)) {w : World} {b : Nat} {l : List Lab} (h : MapAt w b l) (hN : Names l) (ty : TypeId) : (Builtin.len_ #[t] ty #[.map (some b)]).run Tryz.prog w = .ok (.int .i64 l.length) w := by
  rw [World.ownsMap.len h ht ty, labMap_size l hN]

/-- Of the labels l those of xs have come, the others are left. -/
def Col (l : List Lab) (left : Lit → Bool) (xs : List Lab) : Prop := ∃ rest, (xs ++ rest).Perm l ∧ ∀ k, left (.string k) = rest.any (fun y => y.1 == k)

theorem Col.start (l : List Lab) : Col l (has (LabMap l)) [] := ⟨l, List.Perm.refl _, fun k => labMap_has l k⟩

theorem Col.step {l xs : List Lab} {left : Lit → Bool} (h : Col l left xs) (hn : Names l) {k : List UInt8} (hk : left (.string k) = true) :
    ∃ x, x ∈ l ∧ x.1 = k ∧ Col l (fun z => left z && !z.sameKey (.string k)) (xs ++ [x]) := by
  obtain ⟨rest, hp, hl⟩ := h
  rw [hl, List.any_eq_true] at hk
  obtain ⟨x, hx, hxk⟩ := hk
  have hxk : x.1 = k := by simpa using hxk
  subst hxk
  have hx' : x ∈ l := hp.mem_iff.1 (List.mem_append_right _ hx)
  refine ⟨x, hx', rfl, rest.erase x, ?_, ?_⟩
  · refine List.Perm.trans ?_ hp
    rw [List.append_assoc]
    exact List.Perm.append_left xs (List.perm_cons_erase hx).symm
  · intro k
    have hnr : Names (x :: rest.erase x) := by
      have h1 : Names (xs ++ rest) := (hp.map Prod.fst).nodup_iff.2 hn
      unfold Names at h1 ⊢
      rw [List.map_append, List.nodup_append] at h1
      exact ((List.perm_cons_erase hx).map Prod.fst).nodup_iff.1 h1.2.1
    have hany : rest.any (fun y => y.1 == k) = (x :: rest.erase x).any (fun y => y.1 == k) := by
      rw [Bool.eq_iff_iff, List.any_eq_true, List.any_eq_true]
      constructor
      · rintro ⟨y, h1, h2⟩; exact ⟨y, (List.perm_cons_erase hx).mem_iff.1 h1, h2⟩
      · rintro ⟨y, h1, h2⟩; exact ⟨y, (List.perm_cons_erase hx).mem_iff.2 h1, h2⟩
    show (left (.string k) && !(Lit.string k).sameKey (.string x.1)) = _
    rw [hl, hany, List.any_cons]
    unfold Names at hnr
    rw [List.map_cons, List.nodup_cons] at hnr
    by_cases hkx : k = x.1
    · subst hkx
      have e1 : (Lit.string x.1).sameKey (.string x.1) = true := by simp [Lit.sameKey]
      have e2 : (rest.erase x).any (fun y => y.1 == x.1) = false := by
        rw [List.any_eq_false]
        intro y hy
        have : y.1 ≠ x.1 := fun e => hnr.1 (List.mem_map.2 ⟨y, hy, e⟩)
        simpa using this
      rw [e1, e2]; simp
    · have e1 : (Lit.string k).sameKey (.string x.1) = false := sameKey_ne (lit_ne hkx)
      have e2 : (x.1 == k) = false := by simpa using fun e => hkx e.symm
      rw [e1, e2]; simp

theorem Col.done {l xs : List Lab} {left : Lit → Bool} (h : Col l left xs) (h0 : ∀ kl, left kl = false) : xs.Perm l := by
  obtain ⟨rest, hp, hl⟩ := h
  cases rest with
  | nil => simpa using hp
  | cons y r =>
    have := (hl y.1).symm.trans (h0 _)
    simp at this

/-- The step of a loop over a map of labels. -/
theorem next_labs (w : World) {ops : Array Oper} {rest : List Oper} {o : Oper} {a : Act} {Q : Exit → Act → World → Prop} (hg : o.guard = none) (it : Operand) (hop : o.op = Op.next it false) (b r n : Nat) (l : List Lab) (hN : Names l)
    (left : Lit → Bool) (cnt : Nat) (xs : List Lab) (hit : a.eval it = .pointer (some ⟨r, 0, none⟩)) (h : w.ranges Tryz.prog 111 (plainElem Tryz.prog 110) b r n (LabMap l) left cnt) (hC : Col l left xs)
    (hDone : xs.Perm l → wpList Tryz.prog ops Q rest (a.put o.dst (.tuple #[.bool false])) w)
    (hMore : ∀ (x : Lab) (w' : World) (left' : Lit → Bool) (cnt' : Nat), x ∈ l → Col l left' (xs ++ [x]) → w'.ranges Tryz.prog 111 (plainElem Tryz.prog 110) b r n (LabMap l) left' cnt' → cnt' < cnt → w.grownBy w' (some r) → w'.heap.size = w.heap.size →
      (Instr.entry (.pointer (some ⟨r, 0, none⟩))).run Tryz.prog w' = .ok (.tuple #[.string ⟨x.1.toArray⟩, .string ⟨x.2.toArray⟩]) w' → wpList Tryz.prog ops Q rest (a.put o.dst (.tuple #[.bool true, .string ⟨x.1.toArray⟩, .string ⟨x.2.toArray⟩])) w') :
    wpList Tryz.prog ops Q (o :: rest) a w := by
  refine wpList_next_ranges w hg it hop 111 keyed111 (plainElem Tryz.prog 110) encStr Value.string (fun key kl hkey => by obtain ⟨x, hx, _⟩ := Maps.keyOf_str Tryz.underlying111 hkey; exact ⟨x, hx⟩)
    (fun v y hv => by obtain ⟨c, rfl, _⟩ := plainElem_string_inv Tryz.underlying110 hv; exact ⟨c, rfl⟩) b r n (LabMap l) left cnt hit h (fun _ hl => hDone (hC.done hl)) ?_
  intro k c kl y w' cnt' hkey hlk hv hat hrg hlt hgr hsz hen
  obtain ⟨k', ek, rfl, hwk⟩ := Maps.keyOf_str Tryz.underlying111 hkey
  have := encStr_inj ek
  subst this
  obtain ⟨c', ec, hy, _⟩ := plainElem_string_inv Tryz.underlying110 hv
  cases ec
  obtain ⟨x, hx, rfl, hC'⟩ := hC.step hN hlk
  have hat1 := hat (.map [])
  rw [labMap_at l _ hN x hx, hy] at hat1
  have e : x.2 = c.data.toList := lit_inj hat1
  have ec : c = ⟨x.2.toArray⟩ := by
    apply ByteArray.ext
    apply Array.ext'
    simpa using e.symm
  subst ec
  exact hMore x w' _ cnt' hx hC' hrg hlt hgr hsz hen

theorem MapAt.ranges_below {w w' : World} {b r n cnt : Nat} {D : DataW Unit} {left : Lit → Bool} (h : w.ranges Tryz.prog 111 (plainElem Tryz.prog 110) b r n D left cnt) (hb : Below w.heap.size w w') :
    w'.ranges Tryz.prog 111 (plainElem Tryz.prog 110) b r n D left cnt :=
  h.kept (row := none) ⟨hb.os, hb.tape, hb.output, hb.size, fun i hi _ => hb.block i hi⟩ (by simp) (by simp)

theorem row_below {w w' : World} {base : Nat} {e : TypeId} {size : Nat} {v : Value} {n : Nat} {xs : List Value} (h : w.ownsRow base e size v n xs) (hb : Below w.heap.size w w') : w'.ownsRow base e size v n xs :=
  h.kept (row := none) ⟨hb.os, hb.tape, hb.output, hb.size, fun i hi _ => hb.block i hi⟩ (by cases v.ownBlock <;> simp)

/-! ### Quoted, and joined -/
def quoteT (v : List UInt8) : List UInt8 := (strOfNums (Lib.quoteZ Lib.goPrintTabs ⟨v.toArray⟩)).data.toList

theorem quoteT_len (v : List UInt8) : (quoteT v).length ≤ 10 * v.length + 2 := by
  have := Lib.quoteZ_length_le Lib.goPrintTabs ⟨v.toArray⟩
  have e : (⟨v.toArray⟩ : ByteArray).size = v.length := by show v.toArray.size = _; simp
  rw [e] at this
  have h2 : (quoteT v).length = (Lib.quoteZ Lib.goPrintTabs ⟨v.toArray⟩).length := by simp [quoteT, strOfNums]
  omega

theorem quote_call (v : List UInt8) (hv : v.length ≤ 300) (w : World) (hT : Tabs w) :
    Calls Tryz.prog 25 #[.string ⟨v.toArray⟩] w fun e w' => e = .returned (.string ⟨(quoteT v).toArray⟩) ∧ Below w.heap.size w w' := by
  have h := Tryz.strconv_Quote Lib.goPrintTabs ⟨v.toArray⟩ w (by show 10 * v.toArray.size + 12 ≤ _; simp; omega) hT.at.prints hT.at.u8
  refine h.mono ?_
  rintro e w' ⟨rfl, hb⟩
  refine ⟨?_, hb⟩
  simp [quoteT]

theorem join_len (xs : List (List UInt8)) (sep : List UInt8) (B : Nat) (hB : ∀ x ∈ xs, x.length ≤ B) : (Lib.join xs sep).length ≤ xs.length * (B + sep.length) := by
  cases xs with
  | nil => simp [Lib.join_nil]
  | cons x r =>
    rw [Lib.join_length]
    have : ∀ l : List (List UInt8), (∀ x ∈ l, x.length ≤ B) → Lib.lens l ≤ l.length * B := by
      intro l
      induction l with
      | nil => intro _; simp [Lib.lens]
      | cons y t ih =>
        intro h
        have h1 := ih (fun z hz => h z (List.mem_cons_of_mem _ hz))
        have h2 := h y List.mem_cons_self
        simp only [Lib.lens, List.length_cons, Nat.add_mul]
        simp [Lib.lens] at h1
        simp
        omega
    have h1 := this (x :: r) hB
    simp only [List.length_cons, Nat.add_mul, Nat.mul_add] at h1 ⊢
    have : sep.length * r.length = r.length * sep.length := Nat.mul_comm _ _
    omega

theorem join_call (xs : List (List UInt8)) (sep : List UInt8) (bk c B : Nat) (w : World) (hc : ∀ j x, xs[j]? = some x → w.cell? ⟨bk, j, none⟩ = some (.string ⟨x.toArray⟩)) (hbk : bk < w.heap.size) (hn : xs.length ≤ 1000) (hcap : xs.length ≤ c)
    (hB : ∀ x ∈ xs, x.length ≤ B) (hB' : B + sep.length ≤ 1000000) :
    Calls Tryz.prog 26 #[.slice (some ⟨bk, 0, none⟩) xs.length c, .string ⟨sep.toArray⟩] w fun e w' => e = .returned (.string ⟨(Lib.join xs sep).toArray⟩) ∧ Below w.heap.size w w' := by
  have e1 : ((xs.map (fun x => (⟨x.toArray⟩ : ByteArray))).map (·.data.toList)) = xs := by
    rw [List.map_map]
    simp [Function.comp_def]
  have hl := join_len xs sep B hB
  have hm : xs.length * (B + sep.length) ≤ 1000 * 1000000 := Nat.mul_le_mul hn hB'
  have h := Tryz.strings_Join bk 0 c (xs.map fun x => ⟨x.toArray⟩) ⟨sep.toArray⟩ w (fun j x hx => by
      rw [List.getElem?_map] at hx
      obtain ⟨y, hy, rfl⟩ := Option.map_eq_some_iff.1 hx
      rw [Nat.zero_add]
      exact hc j y hy) hbk (by simp; omega) (by simpa using hcap) (by rw [e1]; simp; omega)
  rw [e1] at h
  simpa using h

end Go.Proofs.YtdeejmkjhmpabaaGreatDoor
