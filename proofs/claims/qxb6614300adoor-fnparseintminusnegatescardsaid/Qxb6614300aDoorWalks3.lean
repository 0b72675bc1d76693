/-
  THE WALKS, 3: conversionError, parseSigned, parseInt, ZZparseInt.
-/
import Derived.Test.Qxb6614300aDoorWalks2
namespace Go.Proofs.Qxb6614300aDoor
open Go.RowKit

/-- strconv's two sentinels as the program's text lays them. -/
structure Errs (pr ps : Addr) (w : World) : Prop where
  hr : w.var? Tryd.prog "strconv.ErrRange" = some #[.iface 72 (.pointer (some pr))]
  hs : w.var? Tryd.prog "strconv.ErrSyntax" = some #[.iface 72 (.pointer (some ps))]
  ne : ps ≠ pr
  br : ∃ c t, w.heap[pr.block]? = some (.cells c t (0, 0))
  bs : ∃ c t, w.heap[ps.block]? = some (.cells c t (0, 0))

theorem block_b {w w' : World} (hb : Below w.heap.size w w') {k : Nat} {o : Obj} (h : w.heap[k]? = some o) : w'.heap[k]? = some o :=
  (hb.block k (Array.getElem?_eq_some_iff.1 h).1).trans h

theorem var_b {w w' : World} (hb : Below w.heap.size w w') {n : String} {cs : Array Value} (h : w.var? Tryd.prog n = some cs) : w'.var? Tryd.prog n = some cs := by
  unfold World.var? at h ⊢
  cases hg : Tryd.prog.globalNamed n with
  | none => rw [hg] at h; cases h
  | some g =>
    rw [hg] at h
    simp only [Option.bind_some] at h ⊢
    cases hh : w.heap[g]? with
    | none => rw [hh] at h; cases h
    | some o => rw [hh] at h; rw [block_b hb hh]; exact h

theorem Errs.below {pr ps : Addr} {w w' : World} (h : Errs pr ps w) (hb : Below w.heap.size w w') : Errs pr ps w' := by
  obtain ⟨h1, h2, h3, ⟨c, t, h4⟩, ⟨c', t', h5⟩⟩ := h
  exact ⟨var_b hb h1, var_b hb h2, h3, ⟨c, t, block_b hb h4⟩, ⟨c', t', block_b hb h5⟩⟩

theorem gRange : Tryd.prog.globalNamed "strconv.ErrRange" = some 0 := by kernel_rfl

set_option maxHeartbeats 400000 in
set_option maxRecDepth 100000 in
theorem conv_nil (x : ByteArray) (w : World) : Calls Tryd.prog 14 #[.nilIface, .string x] w fun e w' => e = .returned .nilIface ∧ w' = w := by
  go_enter Tryd.func14, Tryd.ntmps14
  go_wp2
  go_ret
  exact ⟨rfl, rfl⟩

/-- conversionError answers a reason. -/
def Reasons (w : World) (e : Ending) (w' : World) : Prop := ∃ x, e = .returned (.iface 38 (.string x)) ∧ w' = w

set_option maxHeartbeats 400000 in
set_option maxRecDepth 100000 in
theorem conv_bad (x : ByteArray) (pr ps : Addr) (N : Nat) (c : Value) (w : World) (hE : Errs pr ps w) (hc : c = .pointer (some pr) ∨ c = .pointer (some ps)) (h2 : w.cell? ⟨N, 2, none⟩ = some (.iface 72 c)) :
    Calls Tryd.prog 14 #[.iface 45 (.pointer (some ⟨N, 0, none⟩)), .string x] w (Reasons w) := by
  obtain ⟨hr, hs, hne, ⟨cr, tr, hbr⟩, ⟨cs, ts, hbs⟩⟩ := hE
  have hcell : w.cell? ⟨0, 0, none⟩ = some (.iface 72 (.pointer (some pr))) := World.var?_cell gRange hr 0
  rcases hc with rfl | rfl
  · have HI := (show Hid _ from is_same N pr w h2)
    clear hr hs hne hbr hbs h2
    go_enter Tryd.func14, Tryd.ntmps14
    go_wp2_with fail
    refine Calls.mono HI.out ?_
    rintro e w' ⟨rfl, rfl⟩
    go_wp2
    go_ret
    exact ⟨_, rfl, rfl⟩
  · have HI := (show Hid _ from is_other N pr ps cs cr ts tr w h2 hne hbs hbr)
    clear hr hs hne hbr hbs h2
    go_enter Tryd.func14, Tryd.ntmps14
    go_wp2_with fail
    refine Calls.mono HI.out ?_
    rintro e w' ⟨rfl, rfl⟩
    go_wp2
    go_ret
    exact ⟨_, rfl, rfl⟩

/-- What parseSigned, parseInt and ZZparseInt answer. -/
def ParseEnd (l : List UInt8) (w : World) (e : Ending) (w' : World) : Prop :=
  ∃ er, e = .returned (.tuple #[.int .i64 (valOf l), er]) ∧ Below w.heap.size w w' ∧ ((okOf l = true ∧ er = .nilIface) ∨ (okOf l = false ∧ ∃ x, er = .iface 38 (.string x)))

/-- Behind ParseInt: what it left. -/
def Parsed (pr ps : Addr) (l : List UInt8) (w : World) (e : Ending) (w' : World) : Prop :=
  ∃ er, e = .returned (.tuple #[.int .i64 (valOf l), er]) ∧ Below w.heap.size w w' ∧ Errs pr ps w' ∧ ((okOf l = true ∧ er = .nilIface) ∨ (okOf l = false ∧ ∃ N c, er = .iface 45 (.pointer (some ⟨N, 0, none⟩)) ∧ (c = .pointer (some pr) ∨ c = .pointer (some ps)) ∧ w'.cell? ⟨N, 2, none⟩ = some (.iface 72 c)))

theorem parsed_any (pr ps : Addr) (s : ByteArray) (w : World) (hm : s.size ≤ 70000) (hE : Errs pr ps w) : Calls Tryd.prog 13 #[.string s, .int .i64 10, .int .i64 64] w (Parsed pr ps s.data.toList w) := by
  cases hok : okOf s.data.toList with
  | true =>
    refine (parse_ok s (by omega) hok w).mono ?_
    rintro e w' ⟨rfl, hb⟩
    exact ⟨_, rfl, hb, hE.below hb, .inl ⟨hok, rfl⟩⟩
  | false =>
    refine (parse_bad s (by omega) hok _ _ w hE.hr hE.hs).mono ?_
    rintro e w' ⟨N, c, rfl, hc, hN, hb⟩
    exact ⟨_, rfl, hb, hE.below hb, .inr ⟨hok, N, c, rfl, hc, hN⟩⟩

/-- conversionError behind ParseInt. -/
def Convd (l : List UInt8) (w : World) (e : Ending) (w' : World) : Prop := ∃ er, e = .returned er ∧ w' = w ∧ ((okOf l = true ∧ er = .nilIface) ∨ (okOf l = false ∧ ∃ x, er = .iface 38 (.string x)))
theorem convd_any (pr ps : Addr) (l : List UInt8) (x : ByteArray) (er : Value) (w : World) (hE : Errs pr ps w) (h : (okOf l = true ∧ er = .nilIface) ∨ (okOf l = false ∧ ∃ N c, er = .iface 45 (.pointer (some ⟨N, 0, none⟩)) ∧ (c = .pointer (some pr) ∨ c = .pointer (some ps)) ∧ w.cell? ⟨N, 2, none⟩ = some (.iface 72 c))) :
    Calls Tryd.prog 14 #[er, .string x] w (Convd l w) := by
  rcases h with ⟨hok, rfl⟩ | ⟨hok, N, c, rfl, hc, hN⟩
  · refine (conv_nil x w).mono ?_
    rintro e w' ⟨rfl, rfl⟩
    exact ⟨_, rfl, rfl, .inl ⟨hok, rfl⟩⟩
  · refine (conv_bad x pr ps N c w hE hc hN).mono ?_
    rintro e w' ⟨y, rfl, rfl⟩
    exact ⟨_, rfl, rfl, .inr ⟨hok, y, rfl⟩⟩

set_option maxHeartbeats 400000 in
set_option maxRecDepth 100000 in
theorem ps_plus (pr ps : Addr) (s d : ByteArray) (w : World) (hE : Errs pr ps w) (hse : s.toList.isEmpty = false) (hm : s.size ≤ 70000) (hidx : ∀ w, (Instr.index 9 (.string s) (.int .i64 0)).run Tryd.prog w = .ok (.int .u8 43) w) (hsl : ∀ w, (Instr.slice 9 (.string s) (some (.int .i64 1)) none none).run Tryd.prog w = .ok (.string d) w) (hd : d.size ≤ 70000) (hrel : ∀ n, clsOf d.data.toList = 0 → numOf d.data.toList = n → n ≤ 999999999 → valOf s.data.toList = n ∧ okOf s.data.toList = true) :
    Calls Tryd.prog 11 #[.string s, .int .i64 64] w (ParseEnd s.data.toList w) := by
  have HR := (show Hid _ from hrel)
  have HE := (show Hid (Errs pr ps w) from hE)
  clear hrel hE
  go_enter Tryd.func11, Tryd.ntmps11
  go_wp2_with fail
  refine (small_any d w (by omega)).mono ?_
  rintro e w' ⟨n, b, rfl, rfl, hb⟩
  cases b with
  | true =>
    obtain ⟨b1, b2, b3, b4⟩ := hb rfl
    have HV := (show Hid _ from HR.out n b1 b2 b4)
    clear b1 b2 hb
    go_wp2_with fail
    go_ret2
    exact ⟨_, by rw [HV.out.1]; rfl, Below.refl _ _, .inl ⟨HV.out.2, rfl⟩⟩
  | false =>
    clear hb
    go_wp2_with fail
    refine (parsed_any pr ps s w' hm HE.out).mono ?_
    rintro e w1 ⟨er, rfl, hb1, hE1, h1⟩
    have HE1 := (show Hid (Errs pr ps w1) from hE1)
    have H1 := (show Hid _ from h1)
    clear hE1 h1
    go_wp2_with fail
    refine (convd_any pr ps s.data.toList _ er w1 HE1.out H1.out).mono ?_
    rintro e w2 ⟨er2, rfl, rfl, h2⟩
    have H2 := (show Hid _ from h2)
    clear h2
    go_wp2_with fail
    go_ret2
    exact ⟨_, rfl, hb1, H2.out⟩

set_option maxHeartbeats 400000 in
set_option maxRecDepth 100000 in
theorem ps_minus (pr ps : Addr) (s d : ByteArray) (w : World) (hE : Errs pr ps w) (hse : s.toList.isEmpty = false) (hm : s.size ≤ 70000) (hidx : ∀ w, (Instr.index 9 (.string s) (.int .i64 0)).run Tryd.prog w = .ok (.int .u8 45) w) (hsl : ∀ w, (Instr.slice 9 (.string s) (some (.int .i64 1)) none none).run Tryd.prog w = .ok (.string d) w) (hd : d.size ≤ 70000) (hrel : ∀ n, clsOf d.data.toList = 0 → numOf d.data.toList = n → n ≤ 999999999 → valOf s.data.toList = -n ∧ okOf s.data.toList = true) :
    Calls Tryd.prog 11 #[.string s, .int .i64 64] w (ParseEnd s.data.toList w) := by
  have HR := (show Hid _ from hrel)
  have HE := (show Hid (Errs pr ps w) from hE)
  clear hrel hE
  go_enter Tryd.func11, Tryd.ntmps11
  go_wp2_with fail
  refine (small_any d w (by omega)).mono ?_
  rintro e w' ⟨n, b, rfl, rfl, hb⟩
  cases b with
  | true =>
    obtain ⟨b1, b2, b3, b4⟩ := hb rfl
    have HV := (show Hid _ from HR.out n b1 b2 b4)
    clear b1 b2 hb
    go_wp2_with fail
    go_ret2
    exact ⟨_, by rw [HV.out.1]; rfl, Below.refl _ _, .inl ⟨HV.out.2, rfl⟩⟩
  | false =>
    clear hb
    go_wp2_with fail
    refine (parsed_any pr ps s w' hm HE.out).mono ?_
    rintro e w1 ⟨er, rfl, hb1, hE1, h1⟩
    have HE1 := (show Hid (Errs pr ps w1) from hE1)
    have H1 := (show Hid _ from h1)
    clear hE1 h1
    go_wp2_with fail
    refine (convd_any pr ps s.data.toList _ er w1 HE1.out H1.out).mono ?_
    rintro e w2 ⟨er2, rfl, rfl, h2⟩
    have H2 := (show Hid _ from h2)
    clear h2
    go_wp2_with fail
    go_ret2
    exact ⟨_, rfl, hb1, H2.out⟩

set_option maxHeartbeats 400000 in
set_option maxRecDepth 100000 in
theorem ps_plain (pr ps : Addr) (s : ByteArray) (w : World) (hE : Errs pr ps w) (hse : s.toList.isEmpty = false) (hm : s.size ≤ 70000) (cc : Int) (h43 : (cc == 43) = false) (h45 : (cc == 45) = false) (hidx : ∀ w, (Instr.index 9 (.string s) (.int .i64 0)).run Tryd.prog w = .ok (.int .u8 cc) w) (hrel : ∀ n, clsOf s.data.toList = 0 → numOf s.data.toList = n → n ≤ 999999999 → valOf s.data.toList = n ∧ okOf s.data.toList = true) :
    Calls Tryd.prog 11 #[.string s, .int .i64 64] w (ParseEnd s.data.toList w) := by
  have HR := (show Hid _ from hrel)
  have HE := (show Hid (Errs pr ps w) from hE)
  clear hrel hE
  go_enter Tryd.func11, Tryd.ntmps11
  go_wp2_with fail
  refine (small_any s w (by omega)).mono ?_
  rintro e w' ⟨n, b, rfl, rfl, hb⟩
  cases b with
  | true =>
    obtain ⟨b1, b2, b3, b4⟩ := hb rfl
    have HV := (show Hid _ from HR.out n b1 b2 b4)
    clear b1 b2 hb
    go_wp2_with fail
    go_ret2
    exact ⟨_, by rw [HV.out.1]; rfl, Below.refl _ _, .inl ⟨HV.out.2, rfl⟩⟩
  | false =>
    clear hb
    go_wp2_with fail
    refine (parsed_any pr ps s w' hm HE.out).mono ?_
    rintro e w1 ⟨er, rfl, hb1, hE1, h1⟩
    have HE1 := (show Hid (Errs pr ps w1) from hE1)
    have H1 := (show Hid _ from h1)
    clear hE1 h1
    go_wp2_with fail
    refine (convd_any pr ps s.data.toList _ er w1 HE1.out H1.out).mono ?_
    rintro e w2 ⟨er2, rfl, rfl, h2⟩
    have H2 := (show Hid _ from h2)
    clear h2
    go_wp2_with fail
    go_ret2
    exact ⟨_, rfl, hb1, H2.out⟩

set_option maxHeartbeats 400000 in
set_option maxRecDepth 100000 in
theorem ps_empty (pr ps : Addr) (w : World) (hE : Errs pr ps w) : Calls Tryd.prog 11 #[.string ByteArray.empty, .int .i64 64] w (ParseEnd ByteArray.empty.data.toList w) := by
  have HE := (show Hid (Errs pr ps w) from hE)
  clear hE
  go_enter Tryd.func11, Tryd.ntmps11
  go_wp2_with fail
  refine (small_any ByteArray.empty w (by decide)).mono ?_
  rintro e w' ⟨n, b, rfl, rfl, hb⟩
  cases b with
  | true =>
    have := (hb rfl).1
    cases this
  | false =>
    clear hb
    go_wp2_with fail
    refine (parsed_any pr ps ByteArray.empty w' (by decide) HE.out).mono ?_
    rintro e w1 ⟨er, rfl, hb1, hE1, h1⟩
    have HE1 := (show Hid (Errs pr ps w1) from hE1)
    have H1 := (show Hid _ from h1)
    clear hE1 h1
    go_wp2_with fail
    refine (convd_any pr ps ByteArray.empty.data.toList _ er w1 HE1.out H1.out).mono ?_
    rintro e w2 ⟨er2, rfl, rfl, h2⟩
    have H2 := (show Hid _ from h2)
    clear h2
    go_wp2_with fail
    go_ret2
    exact ⟨_, rfl, hb1, H2.out⟩

theorem not_isEmpty {s : ByteArray} (h : 0 < s.size) : s.toList.isEmpty = false := by
  rw [ByteArray.toList_eq]
  cases hl : s.data.toList with
  | nil => have := size_len s; rw [hl] at this; simp at this; omega
  | cons _ _ => rfl

theorem ps_any (pr ps : Addr) (s : ByteArray) (w : World) (hm : s.size ≤ 70000) (hE : Errs pr ps w) : Calls Tryd.prog 11 #[.string s, .int .i64 64] w (ParseEnd s.data.toList w) := by
  by_cases h0 : s.size = 0
  · obtain rfl : s = ByteArray.empty := ByteArray.size_eq_zero_iff.1 h0
    exact ps_empty pr ps w hE
  have hse := not_isEmpty (s := s) (by omega)
  obtain ⟨c, d, hl, hd, hidx, h255, hsl⟩ := head_of (s := s) (by omega)
  by_cases h45 : c = 45
  · subst h45
    have hN := neg_minus d.data.toList
    rw [← hl] at hN
    exact ps_minus pr ps s d w hE hse hm hidx hsl (by omega) (fun n a b c => by subst b; exact hN.2.2.2 a (by omega))
  by_cases h43 : c = 43
  · subst h43
    have hN := pos_plus d.data.toList
    rw [← hl] at hN
    exact ps_plus pr ps s d w hE hse hm hidx hsl (by omega) (fun n a b c => by subst b; exact hN.2.2.2 a (by omega))
  · have e43 : c.toNat ≠ 43 := fun e => h43 (UInt8.toNat_inj.1 e)
    have e45 : c.toNat ≠ 45 := fun e => h45 (UInt8.toNat_inj.1 e)
    have hs : Signless s.data.toList := fun c' r' e => by
      rw [hl] at e
      injection e with e _
      subst e
      exact ⟨e43, e45⟩
    have hN := pos_signless hs
    exact ps_plain pr ps s w hE hse hm _ (beq_no (by omega)) (beq_no (by omega)) hidx (fun n a b c => by subst b; exact hN.2.2.2 a (by omega))

set_option maxHeartbeats 400000 in
set_option maxRecDepth 100000 in
theorem pi_any (pr ps : Addr) (s : ByteArray) (w : World) (hm : s.size ≤ 70000) (hE : Errs pr ps w) : Calls Tryd.prog 10 #[.string s] w (ParseEnd s.data.toList w) := by
  have HE := (show Hid (Errs pr ps w) from hE)
  have HV := (show Hid _ from val_bounds s.data.toList)
  clear hE
  go_enter Tryd.func10, Tryd.ntmps10
  go_wp2_with fail
  refine (ps_any pr ps s w hm HE.out).mono ?_
  rintro e w1 ⟨er, rfl, hb1, h1⟩
  have H1 := (show Hid _ from h1)
  clear h1
  go_wp2_with fail
  go_ret2
  exact ⟨_, rfl, hb1, H1.out⟩

set_option maxHeartbeats 400000 in
set_option maxRecDepth 100000 in
/-- ZZparseInt. -/
theorem zz_any (pr ps : Addr) (s : ByteArray) (w : World) (hm : s.size ≤ 70000) (hE : Errs pr ps w) : Calls Tryd.prog 6 #[.string s] w (ParseEnd s.data.toList w) := by
  have HE := (show Hid (Errs pr ps w) from hE)
  clear hE
  go_enter Tryd.func6, Tryd.ntmps6
  go_wp2_with fail
  refine (pi_any pr ps s w hm HE.out).mono ?_
  rintro e w1 ⟨er, rfl, hb1, h1⟩
  have H1 := (show Hid _ from h1)
  clear h1
  go_wp2_with fail
  go_ret2
  exact ⟨_, rfl, hb1, H1.out⟩
end Go.Proofs.Qxb6614300aDoor
