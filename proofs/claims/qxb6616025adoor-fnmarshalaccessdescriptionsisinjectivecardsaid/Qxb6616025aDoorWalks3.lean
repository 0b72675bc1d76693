/-
  THE WALKS, 3: Implicit, MarshalOID, marshalURI, marshalAccessDescriptions, ZZmarshalAccessDescriptions.
-/
import Derived.Test.Qxb6616025aDoorWalks2
import Derived.Deep.RegionWith
namespace Go.Proofs.Qxb6616025aDoor
open Go.RowKit

/-- The three variables as the program's text lays them. -/
structure Tags (w : World) : Prop where
  a0 : w.cell? ⟨0, 0, none⟩ = some (.int .u8 0)
  a1 : w.cell? ⟨0, 1, none⟩ = some (.bool true)
  a2 : w.cell? ⟨0, 2, none⟩ = some (.int .u32 16)
  b0 : w.cell? ⟨1, 0, none⟩ = some (.int .u8 0)
  b1 : w.cell? ⟨1, 1, none⟩ = some (.bool false)
  b2 : w.cell? ⟨1, 2, none⟩ = some (.int .u32 6)
  c0 : w.cell? ⟨2, 0, none⟩ = some (.int .u8 0)
  c1 : w.cell? ⟨2, 1, none⟩ = some (.bool false)
  c2 : w.cell? ⟨2, 2, none⟩ = some (.int .u32 22)

theorem cell_b {w w' : World} (hb : Below w.heap.size w w') {a : Addr} {v : Value} (h : w.cell? a = some v) : w'.cell? a = some v :=
  (hb.cell (World.block_lt_of_cell? _ _ h)).trans h

theorem Tags.below {w w' : World} (h : Tags w) (hb : Below w.heap.size w w') : Tags w' :=
  ⟨cell_b hb h.a0, cell_b hb h.a1, cell_b hb h.a2, cell_b hb h.b0, cell_b hb h.b1, cell_b hb h.b2, cell_b hb h.c0, cell_b hb h.c1, cell_b hb h.c2⟩

/-- A string's bytes. -/
def bytes (s : ByteArray) : List Int := s.data.toList.map fun b => (b.toNat : Int)

theorem bytes_len (s : ByteArray) : (bytes s).length = s.size := by rw [bytes, List.length_map]; rfl

/-- The slice value v is a row of the bytes l, from its head. -/
def OwnsB (w : World) (v : Value) (l : List Int) : Prop :=
  ∃ g cap, v = .slice (some ⟨g, 0, none⟩) l.length cap ∧ l.length < cap ∧ cap ≤ maxLen ∧ ∀ j x, l[j]? = some x → w.cell? ⟨g, j, none⟩ = some (.int .u8 x)

theorem OwnsB.of_owns {w : World} {base n : Nat} {v : Value} {l : List Int} (h : w.ownsRow base 5 1 v n (l.map (Value.int .u8))) (hc : ∃ g c, v = .slice (some ⟨g, 0, none⟩) l.length c ∧ l.length < c) : OwnsB w v l := by
  have h1 : l.length = n := by have := h.1; simpa using this
  obtain ⟨g, c, rfl, hlt⟩ := hc
  rcases h.2 with ⟨e, _⟩ | ⟨g', cap, cur, e, _, _, hc, hm, _⟩
  · cases e
  · simp only [Value.slice.injEq, Option.some.injEq, Addr.mk.injEq, and_true] at e
    obtain ⟨rfl, _, rfl⟩ := e
    refine ⟨g, c, rfl, hlt, hm, fun j x hj => ?_⟩
    have := h.cells (g := g) rfl j (.int .u8 x) (by simp [hj])
    rwa [Addr.add_lit, Nat.zero_add] at this

theorem OwnsB.holds {w : World} {v : Value} {l : List Int} (h : OwnsB w v l) : HoldsB w v l := by
  obtain ⟨g, cap, hv, _, _, hc⟩ := h
  refine ⟨_, cap, hv, (fun e => by cases e), fun ad had => ?_⟩
  cases had
  exact news_of fun j x hj => by rw [Nat.zero_add]; exact hc j x hj

theorem OwnsB.below {w w' : World} {v : Value} {l : List Int} (h : OwnsB w v l) (hb : Below w.heap.size w w') : OwnsB w' v l := by
  obtain ⟨g, cap, hv, h1, h2, hc⟩ := h
  exact ⟨g, cap, hv, h1, h2, fun j x hj => cell_b hb (hc j x hj)⟩

set_option maxHeartbeats 400000 in
theorem implicit_any (w : World) : Calls Tryd.prog 18 #[.int .u32 6, .agg #[.int .u8 0, .bool false, .int .u32 22]] w fun e w' => e = .returned (.agg #[.int .u8 2, .bool false, .int .u32 6]) ∧ Below w.heap.size w w' := by
  go_enter Tryd.func18, Tryd.ntmps18
  go_wp2
  exact bodyPost_ret (v := .agg #[.int .u8 2, .bool false, .int .u32 6]) (by simp [results, Tryd.results18, go_sem]) rfl ⟨rfl, ((Below.refl _ _).alloc (Nat.le_refl _) _).alloc (by simp) _⟩

/-- The world behind '[]byte(s)' and the one-part list. -/
def convW (w : World) (s : ByteArray) (C : Nat) : World :=
  ((w.alloc (.cells (bytesRow s C) 5 ((bytesRow s C).size, (bytesRow s C).size + 1))).alloc (.cells #[.slice (some ⟨w.heap.size, 0, none⟩) s.size C] 23)).drew

theorem convW_below (w : World) (s : ByteArray) (C : Nat) : Below w.heap.size w (convW w s C) :=
  (((Below.refl _ _).alloc (Nat.le_refl _) _).alloc (by simp) _).drew

theorem convW_size (w : World) (s : ByteArray) (C : Nat) : w.heap.size ≤ (convW w s C).heap.size := (convW_below w s C).size

theorem bytes_get (s : ByteArray) (C j : Nat) (x : Int) (h : (bytes s)[j]? = some x) : (bytesRow s C)[j]? = some (.int .u8 x) := by
  unfold bytes at h
  rw [List.getElem?_map] at h
  cases hb : s.data.toList[j]? with
  | none => rw [hb] at h; cases h
  | some b =>
    rw [hb] at h
    simp only [Option.map_some, Option.some.injEq] at h
    subst h
    have hlt : j < s.data.size := by have := (List.getElem?_eq_some_iff.1 hb).1; simpa using this
    unfold bytesRow
    rw [Array.getElem?_append_left (by simpa using hlt), Array.getElem?_map]
    have : s.data[j]? = some b := by rw [← hb]; simp
    rw [this]; rfl

theorem convW_part (w : World) (s : ByteArray) (C : Nat) : ∀ j p, ([(Value.slice (some ⟨w.heap.size, 0, none⟩) s.size C, bytes s)])[j]? = some p → (convW w s C).cell? ⟨w.heap.size + 1, j, none⟩ = some p.1 ∧ HoldsB (convW w s C) p.1 p.2 := by
  intro j p hp
  match j, hp with
  | 0, hp =>
    simp only [List.getElem?_cons_zero, Option.some.injEq] at hp
    subst hp
    refine ⟨by simp [convW], some ⟨w.heap.size, 0, none⟩, C, by rw [bytes_len], (fun e => by cases e), fun ad had => ?_⟩
    cases had
    refine news_of fun j x hj => ?_
    rw [Nat.zero_add]
    have h2 : (w.alloc (.cells (bytesRow s C) 5 ((bytesRow s C).size, (bytesRow s C).size + 1))).cell? ⟨w.heap.size, j, none⟩ = some (.int .u8 x) := by
      rw [World.cell?_alloc_mark]; exact bytes_get s C j x hj
    exact (World.cell?_alloc_lt _ _ _ (World.block_lt_of_cell? _ _ h2)).trans h2

theorem cat_one (v : Value) (l : List Int) : cat [(v, l)] = l := by simp [cat]
theorem cat_two (v v' : Value) (l l' : List Int) : cat [(v, l), (v', l')] = l ++ l' := by simp [cat]

set_option maxHeartbeats 400000 in
set_option maxRecDepth 100000 in
theorem oid_any (s : ByteArray) (w : World) (ht : Tags w) (hs : s.size ≤ 70000) : Calls Tryd.prog 14 #[.string s] w fun e w' => ∃ v, e = .returned v ∧ OwnsB w' v (Der.tlv 6 (bytes s)) ∧ Below w.heap.size w w' := by
  have hcv := fun w => run_bytes_of_string (P := Tryd.prog) w 31 23 5 s Tryd.underlying31 Tryd.underlying23 Tryd.underlying5
  obtain ⟨a0, a1, a2, b0, b1, b2, c0, c1, c2⟩ := ht
  go_enter Tryd.func14, Tryd.ntmps14
  go_wp2_with fail
  refine (marshal_any _ 6 (.inr (.inl ⟨rfl, rfl⟩)) (w.heap.size + 1) 1 [(Value.slice (some ⟨w.heap.size, 0, none⟩) s.size (grownCap w s.size 0 5), bytes s)] (convW w s (grownCap w s.size 0 5)) rfl (by omega) (convW_part w s _) (by rw [cat_one, bytes_len]; omega)).mono ?_
  rintro e w1 ⟨v, rfl, hown, hb, hg⟩
  rw [cat_one] at hown hg
  go_wp2
  go_ret
  exact ⟨v, rfl, OwnsB.of_owns hown hg, (convW_below w s _).trans (hb.mono (convW_size w s _))⟩

set_option maxHeartbeats 400000 in
set_option maxRecDepth 100000 in
theorem uri_any (s : ByteArray) (w : World) (ht : Tags w) (hs : s.size ≤ 70000) : Calls Tryd.prog 15 #[.string s] w fun e w' => ∃ v, e = .returned v ∧ OwnsB w' v (Der.tlv 134 (bytes s)) ∧ Below w.heap.size w w' := by
  have hcv := fun w => run_bytes_of_string (P := Tryd.prog) w 9 23 5 s Tryd.underlying9 Tryd.underlying23 Tryd.underlying5
  obtain ⟨a0, a1, a2, b0, b1, b2, c0, c1, c2⟩ := ht
  go_enter Tryd.func15, Tryd.ntmps15
  go_wp2_with fail
  refine (implicit_any _).mono ?_
  rintro e w0 ⟨rfl, hb0⟩
  go_wp2_with fail
  refine (marshal_any _ 134 (.inr (.inr ⟨rfl, rfl⟩)) (w0.heap.size + 1) 1 [(Value.slice (some ⟨w0.heap.size, 0, none⟩) s.size (grownCap w0 s.size 0 5), bytes s)] (convW w0 s (grownCap w0 s.size 0 5)) rfl (by omega) (convW_part w0 s _) (by rw [cat_one, bytes_len]; omega)).mono ?_
  rintro e w1 ⟨v, rfl, hown, hb, hg⟩
  rw [cat_one] at hown hg
  go_wp2
  go_ret
  exact ⟨v, rfl, OwnsB.of_owns hown hg, hb0.trans (((convW_below w0 s _).trans (hb.mono (convW_size w0 s _))).mono hb0.size)⟩

theorem Tags.drew {w : World} (h : Tags w) : Tags w.drew := ⟨h.a0, h.a1, h.a2, h.b0, h.b1, h.b2, h.c0, h.c1, h.c2⟩

theorem below_alloc (w : World) (o : Obj) : Below w.heap.size w (w.alloc o) := (Below.refl _ _).alloc (Nat.le_refl _) _

theorem two_parts {w : World} {v1 v2 : Value} {l1 l2 : List Int} (h1 : HoldsB w v1 l1) (h2 : HoldsB w v2 l2) :
    ∀ j p, ([(v1, l1), (v2, l2)])[j]? = some p → (w.alloc (.cells #[v1, v2] 23)).cell? ⟨w.heap.size, j, none⟩ = some p.1 ∧ HoldsB (w.alloc (.cells #[v1, v2] 23)) p.1 p.2 := by
  intro j p hp
  match j, hp with
  | 0, hp => simp at hp; subst hp; exact ⟨by simp, h1.below (below_alloc _ _)⟩
  | 1, hp => simp at hp; subst hp; exact ⟨by simp, h2.below (below_alloc _ _)⟩

theorem one_part {w : World} {v1 : Value} {l1 : List Int} (h1 : HoldsB w v1 l1) :
    ∀ j p, ([(v1, l1)])[j]? = some p → (w.alloc (.cells #[v1] 23)).cell? ⟨w.heap.size, j, none⟩ = some p.1 ∧ HoldsB (w.alloc (.cells #[v1] 23)) p.1 p.2 := by
  intro j p hp
  match j, hp with
  | 0, hp => simp at hp; subst hp; exact ⟨by simp, h1.below (below_alloc _ _)⟩

theorem OwnsB.form {w : World} {v : Value} {l : List Int} (h : OwnsB w v l) : ∃ g cap, v = .slice (some ⟨g, 0, none⟩) l.length cap := by
  obtain ⟨g, cap, hv, _⟩ := h
  exact ⟨g, cap, hv⟩

/-- What 13 leaves, in the form that goes on. -/
theorem marshal_two (w : World) (v1 v2 : Value) (l1 l2 : List Int) (h1 : HoldsB w v1 l1) (h2 : HoldsB w v2 l2) (hmax : l1.length + l2.length ≤ 1000000) :
    Calls Tryd.prog 13 #[.agg #[.int .u8 0, .bool true, .int .u32 16], .slice (some ⟨w.heap.size, 0, none⟩) 2 2] (w.alloc (.cells #[v1, v2] 23)) fun e w' => ∃ v, e = .returned v ∧ OwnsB w' v (Der.tlv 48 (l1 ++ l2)) ∧ Below w.heap.size w w' := by
  refine (marshal_any _ 48 (.inl ⟨rfl, rfl⟩) w.heap.size 2 [(v1, l1), (v2, l2)] (w.alloc (.cells #[v1, v2] 23)) rfl (by omega) (two_parts h1 h2) (by rw [cat_two, List.length_append]; omega)).mono ?_
  rintro e w' ⟨v, rfl, ho, hb, hg⟩
  rw [cat_two] at ho hg
  exact ⟨v, rfl, OwnsB.of_owns ho hg, (below_alloc _ _).trans (hb.mono (by simp))⟩

theorem marshal_one (w : World) (v1 : Value) (l1 : List Int) (h1 : HoldsB w v1 l1) (hmax : l1.length ≤ 1000000) :
    Calls Tryd.prog 13 #[.agg #[.int .u8 0, .bool true, .int .u32 16], .slice (some ⟨w.heap.size, 0, none⟩) 1 1] (w.alloc (.cells #[v1] 23)) fun e w' => ∃ v, e = .returned v ∧ OwnsB w' v (Der.tlv 48 l1) ∧ Below w.heap.size w w' := by
  refine (marshal_any _ 48 (.inl ⟨rfl, rfl⟩) w.heap.size 1 [(v1, l1)] (w.alloc (.cells #[v1] 23)) rfl (by omega) (one_part h1) (by rw [cat_one]; omega)).mono ?_
  rintro e w' ⟨v, rfl, ho, hb, hg⟩
  rw [cat_one] at ho hg
  exact ⟨v, rfl, OwnsB.of_owns ho hg, (below_alloc _ _).trans (hb.mono (by simp))⟩

end Go.Proofs.Qxb6616025aDoor
