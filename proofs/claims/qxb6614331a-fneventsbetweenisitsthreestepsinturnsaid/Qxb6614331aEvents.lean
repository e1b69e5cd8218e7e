import Derived.Test.Qxb6614331aLeaves
import Derived.Deep.DeepCutAuto
import Derived.LaidEqlPtr
import Derived.Lib.Builder
namespace Go.Proofs.Qxb6614331a
open Go.RowKit

theorem Try.info34 : (Try.prog.info? 34).map (fun i => (i.zero, i.size, i.bytes)) = some (some (.string ⟨#[]⟩), 1, 16) := by kernel_rfl

abbrev strV (l : List ByteArray) : List Value := l.map Value.string
abbrev sTask : ByteArray := ⟨#[116, 97, 115, 107]⟩
abbrev sDrain : ByteArray := ⟨#[100, 114, 97, 105, 110]⟩

/-- The events of a change. -/
def evs (sb tb db : Bool) (c : ByteArray) : List ByteArray := (if sb then [c] else []) ++ (if tb then [sTask] else []) ++ (if db then [sDrain] else [])

/-- 'rn != rp' comes to β, in whatever world that keeps what lay in w. -/
def PtrNe (w : World) (rn rp : Option Addr) (β : Bool) : Prop := ∀ w', Below w.heap.size w w' → (binOp .neq 25 (.pointer rn) (.pointer rp)).run Try.prog w' = .ok (.bool β) w'

/-- What the call holds: the events L in a slice of its own. -/
structure Holds (B : Nat) (w0 w : World) (v : Value) (L : List ByteArray) : Prop where
  row : w.ownsRow B 34 1 v L.length (strV L)
  nil : L = [] → v = .slice none 0 0
  below : Below B w0 w
  size : B ≤ w0.heap.size

theorem one_new (w : World) (v : Value) (t : TypeId) : ∀ (j : Nat) (u : Value), [v][j]? = some u → (w.alloc (.cells #[v] t)).cell? ((⟨w.heap.size, 0, none⟩ : Addr).add j) = some u := by
  intro j u hj
  match j, hj with
  | 0, hj => simp at hj; subst hj; simp [Addr.add]
theorem one_at (w : World) (n : Nat) (hn : n = w.heap.size) (v : Value) (t : TypeId) : ∀ (j : Nat) (u : Value), [v][j]? = some u → (w.alloc (.cells #[v] t)).cell? ((⟨n, 0, none⟩ : Addr).add j) = some u := by
  subst hn; exact one_new w v t
theorem one_cell (x : ByteArray) : ∀ u ∈ [Value.string x], u.oneCell' = true := by
  intro u hu; simp at hu; subst hu; rfl

theorem Holds.push {B : Nat} {w0 w w1 : World} {v v' : Value} {L : List ByteArray} {c : ByteArray} {o : Obj} (h : Holds B w0 w v L)
    (hown : w1.ownsRow B 34 1 v' (L.length + 1) (strV L ++ [.string c])) (hg : (w.alloc o).grownBy w1 v.ownBlock) : Holds B w0 w1 v' (L ++ [c]) := by
  refine ⟨by simpa [strV] using hown, fun e => by simp at e, ?_, h.size⟩
  have hs := h.below.size
  have := h.size
  refine (h.below.alloc (by omega) o).grown hg (by simp only [World.size_alloc]; omega) (fun k e => (h.row.lt k e).1)

theorem vb {a b : Bool} (h : a = b) : Value.bool a = .bool b := by rw [h]

theorem Holds.start (w : World) (o o' : Obj) : Holds (w.heap.size + 1 + 1) ((w.alloc o).alloc o') ((w.alloc o).alloc o') (.slice none 0 0) [] :=
  ⟨World.ownsRow_nil _ _ _ _, fun _ => rfl, Below.refl _ _, by simp⟩
theorem Holds.outer {w w1 : World} {o o' : Obj} {v : Value} {L : List ByteArray} (h : Holds (w.heap.size + 1 + 1) ((w.alloc o).alloc o') w1 v L) : Holds w.heap.size w w1 v L := by
  refine ⟨?_, h.nil, ?_, Nat.le_refl _⟩
  · obtain ⟨h1, h2⟩ := h.row
    refine ⟨h1, ?_⟩
    rcases h2 with h2 | ⟨g, cap, cur, a, b, r⟩
    · exact .inl h2
    · exact .inr ⟨g, cap, cur, a, by omega, r⟩
  · exact (((Below.refl _ w).alloc (Nat.le_refl _) _).alloc (by simp) _).trans (h.below.mono (by omega))
/-- The two boxes, read behind. -/
theorem Holds.boxes {w w1 : World} {C C' : Array Value} {t t' : TypeId} {v : Value} {L : List ByteArray} (h : Holds (w.heap.size + 1 + 1) ((w.alloc (.cells C t)).alloc (.cells C' t')) w1 v L) :
    (∀ j, w1.cell? ⟨w.heap.size, j, none⟩ = C[j]?) ∧ (∀ j, w1.cell? ⟨w.heap.size + 1, j, none⟩ = C'[j]?) ∧ w.heap.size + 1 + 1 ≤ w1.heap.size := by
  refine ⟨fun j => ?_, fun j => ?_, by have := h.below.size; simpa using this⟩
  · rw [h.below.cell (p := ⟨w.heap.size, j, none⟩) (by simp; omega)]
    rw [World.cell?_alloc_past _ _ _ (by simp), World.cell?_alloc_at _ _ _ _ rfl]
  · rw [h.below.cell (p := ⟨w.heap.size + 1, j, none⟩) (by simp)]
    rw [World.cell?_alloc_at _ _ _ _ (by simp)]

set_option maxRecDepth 100000 in
set_option maxHeartbeats 1000000 in
theorem events_any (ps pt ns nt : ByteArray) (rp rn : Option Addr) (u β : Bool) (c : ByteArray) (w : World)
    (hu : Hid (∀ w, Calls Try.prog 12 #[.string ps, .string ns] w fun e w' => e = .returned (.bool u) ∧ w = w'))
    (hc : Hid (∀ w, Calls Try.prog 13 #[.string ps, .string ns] w fun e w' => e = .returned (.string c) ∧ w = w'))
    (hp : Hid (PtrNe w rn rp β)) :
    Calls Try.prog 11 #[.agg #[.string ps, .string pt, .pointer rp], .agg #[.string ns, .string nt, .pointer rn]] w fun e w' => ∃ v, e = .returned v ∧ Holds w.heap.size w w' v (evs (!(ns.toList == ps.toList) && !u) (!(nt.toList == pt.toList) && !goneB ns) (β && !goneB ns) c) := by
  obtain ⟨i0, hi, hz0, hz1, hz2⟩ := info_parts Try.info34
  go_enter Try.func11, Try.ntmps11
  go_upto_region 2 with fail
  go_cut [19] (fun x wc => x = .bool (!(ns.toList == ps.toList) && !u) ∧ wc = (w.alloc (.cells #[.string ps, .string pt, .pointer rp] 29)).alloc (.cells #[.string ns, .string nt, .pointer rn] 29))
  case first =>
    cases hs : (ns.toList == ps.toList) with
    | true =>
      go_wp2
      go_meet
      case rel => exact ⟨vb (by rw [hs]; rfl), rfl⟩
    | false =>
      go_wp2_with (go_at_call 12; refine (hu.out _).mono ?_; rintro e w' ⟨rfl, rfl⟩)
      go_meet
      case rel => exact ⟨vb (by rw [hs]; rfl), rfl⟩
  case rest =>
    obtain ⟨rfl, rfl⟩ := hcut
    generalize hsb : (!(ns.toList == ps.toList) && !u) = sb
    have HS : Hid ((!(ns.toList == ps.toList) && !u) = sb) := hsb
    clear hsb
    have hH0 := Holds.start w (.cells #[.string ps, .string pt, .pointer rp] 29) (.cells #[.string ns, .string nt, .pointer rn] 29)
    go_upto_if 19 with fail
    go_cut [5] (fun v wc => Holds (w.heap.size + 1 + 1) ((w.alloc (.cells #[.string ps, .string pt, .pointer rp] 29)).alloc (.cells #[.string ns, .string nt, .pointer rn] 29)) wc v (if sb then [c] else []))
    case first =>
      cases sb with
      | true =>
        go_wp2_with (first | (go_at_call 13; refine (hc.out _).mono ?_; rintro e w' ⟨rfl, rfl⟩) | (at_builtin; refine wpList_append_own _ rfl _ _ 31 rfl (w.heap.size + 1 + 1) 34 i0 (.string ⟨#[]⟩) 1 16 Try.underlying31 hi hz0 hz1 hz2 rfl (by decide) _ _ _ rfl (hH0.row.alloc _) ⟨w.heap.size + 1 + 1, 0, none⟩ 1 1 [.string c] rfl rfl (one_at _ _ (by simp) _ _) (one_cell _) (by simp [maxLen]) (by simp) (by simp) ?_; intro v' w1 hown' hgrow _))
        go_meet
        case rel => exact hH0.push hown' hgrow
      | false =>
        go_wp2
        go_meet
        case rel => exact hH0
    case rest =>
      clear hH0
      have hH := hcut
      clear hcut
      have hlen : (if sb then [c] else []).length ≤ 1 := by cases sb <;> simp
      generalize hl1 : (if sb then [c] else []) = L1 at hH hlen ⊢
      have HL1 : Hid ((if sb then [c] else []) = L1) := hl1
      clear hl1
      obtain ⟨bx, by', hsz⟩ := hH.boxes
      have x0 := bx 0
      have x1 := bx 1
      have x2 := bx 2
      have y0 := by' 0
      have y1 := by' 1
      have y2 := by' 2
      simp only [List.getElem?_toArray, List.getElem?_cons_zero, List.getElem?_cons_succ] at x0 x1 x2 y0 y1 y2
      clear bx by'
      go_upto_region 4 with fail
      go_cut [6] (fun x wc' => x = .bool (goneB ns) ∧ wc' = wc)
      case first =>
        cases g1 : (ns.toList == [114, 101, 116, 105, 114, 101, 100]) with
        | true =>
          go_wp2
          go_meet
          case rel => exact ⟨vb (by unfold goneB; rw [g1]; rfl), rfl⟩
        | false =>
          go_wp2
          go_meet
          case rel => exact ⟨vb (by unfold goneB; rw [g1]; rfl), rfl⟩
      case rest =>
        obtain ⟨rfl, rfl⟩ := hcut
        generalize hgb : goneB ns = gb
        have HG : Hid (goneB ns = gb) := hgb
        clear hgb
        go_upto_region 5 with fail
        go_cut [44] (fun x wc' => x = .bool (!(nt.toList == pt.toList) && !gb) ∧ wc' = wc)
        case first =>
          cases ht : (nt.toList == pt.toList) with
          | true =>
            go_wp2
            go_meet
            case rel => exact ⟨vb (by rw [ht]; rfl), rfl⟩
          | false =>
            go_wp2
            go_meet
            case rel => exact ⟨vb (by rw [ht]; rfl), rfl⟩
        case rest =>
        obtain ⟨rfl, rfl⟩ := hcut
        generalize htb : (!(nt.toList == pt.toList) && !gb) = tb
        have HT : Hid ((!(nt.toList == pt.toList) && !gb) = tb) := htb
        clear htb
        go_upto_if 44 with fail
        go_cut [5] (fun v wc' => Holds (w.heap.size + 1 + 1) ((w.alloc (.cells #[.string ps, .string pt, .pointer rp] 29)).alloc (.cells #[.string ns, .string nt, .pointer rn] 29)) wc' v (L1 ++ if tb then [sTask] else []))
        case first =>
          cases tb with
          | true =>
            go_wp2_with (at_builtin; refine wpList_append_own _ rfl _ _ 31 rfl (w.heap.size + 1 + 1) 34 i0 (.string ⟨#[]⟩) 1 16 Try.underlying31 hi hz0 hz1 hz2 rfl (by decide) _ _ _ rfl (hH.row.alloc _) ⟨wc.heap.size, 0, none⟩ 1 1 [.string sTask] rfl rfl (one_new _ _ _) (one_cell _) (by unfold maxLen; omega) (by omega) (by simp; omega) ?_; intro v' w1 hown' hgrow _)
            go_meet
            case rel => exact hH.push hown' hgrow
          | false =>
            go_wp2
            go_meet
            case rel => simpa using hH
        case rest =>
          clear hH x0 x1 x2 y0 y1 y2 hsz
          have hH := hcut
          clear hcut
          have hlen2 : (L1 ++ if tb then [sTask] else []).length ≤ 2 := by cases tb <;> simp <;> omega
          generalize hl2 : (L1 ++ if tb then [sTask] else []) = L2 at hH hlen2 ⊢
          have HL2 : Hid ((L1 ++ if tb then [sTask] else []) = L2) := hl2
          clear hl2
          obtain ⟨bx, by', hsz⟩ := hH.boxes
          have x0 := bx 0
          have x1 := bx 1
          have x2 := bx 2
          have y0 := by' 0
          have y1 := by' 1
          have y2 := by' 2
          simp only [List.getElem?_toArray, List.getElem?_cons_zero, List.getElem?_cons_succ] at x0 x1 x2 y0 y1 y2
          clear bx by'
          have HE : Hid (evs (!(ns.toList == ps.toList) && !u) (!(nt.toList == pt.toList) && !goneB ns) (β && !goneB ns) c = L2 ++ if (β && !gb) then [sDrain] else []) := by
            show _ = _
            unfold evs
            rw [HG.out, HS.out, HT.out, HL1.out, HL2.out]
          have hne := hp.out wc hH.outer.below
          cases β with
          | false =>
            go_wp2
            go_ret
            exact ⟨_, rfl, by rw [HE.out]; simpa using hH.outer⟩
          | true =>
            cases gb with
            | true =>
              go_wp2
              go_ret
              exact ⟨_, rfl, by rw [HE.out]; simpa using hH.outer⟩
            | false =>
              go_wp2_with (at_builtin; refine wpList_append_own _ rfl _ _ 31 rfl (w.heap.size + 1 + 1) 34 i0 (.string ⟨#[]⟩) 1 16 Try.underlying31 hi hz0 hz1 hz2 rfl (by decide) _ _ _ rfl (hH.row.alloc _) ⟨wc.heap.size, 0, none⟩ 1 1 [.string sDrain] rfl rfl (one_new _ _ _) (one_cell _) (by unfold maxLen; omega) (by omega) (by simp; omega) ?_; intro v' w1 hown' hgrow _)
              go_ret
              exact ⟨_, rfl, by rw [HE.out]; exact (hH.push hown' hgrow).outer⟩


set_option maxHeartbeats 400000 in
theorem events8_any (ps pt ns nt : ByteArray) (rp rn : Option Addr) (u β : Bool) (c : ByteArray) (w : World)
    (hu : Hid (∀ w, Calls Try.prog 12 #[.string ps, .string ns] w fun e w' => e = .returned (.bool u) ∧ w = w'))
    (hc : Hid (∀ w, Calls Try.prog 13 #[.string ps, .string ns] w fun e w' => e = .returned (.string c) ∧ w = w'))
    (hp : Hid (PtrNe w rn rp β)) :
    Calls Try.prog 8 #[.agg #[.string ps, .string pt, .pointer rp], .agg #[.string ns, .string nt, .pointer rn]] w fun e w' => ∃ v, e = .returned v ∧ Holds w.heap.size w w' v (evs (!(ns.toList == ps.toList) && !u) (!(nt.toList == pt.toList) && !goneB ns) (β && !goneB ns) c) := by
  have hp' : Hid (PtrNe ((w.alloc (.cells #[.string ps, .string pt, .pointer rp] 29)).alloc (.cells #[.string ns, .string nt, .pointer rn] 29)) rn rp β) := fun w' hb =>
    hp.out w' ((((Below.refl _ w).alloc (Nat.le_refl _) _).alloc (by simp) _).trans (hb.mono (by simp; omega)))
  go_enter Try.func8, Try.ntmps8
  go_wp2_with fail
  refine (events_any ps pt ns nt rp rn u β c _ hu hc hp').mono ?_
  rintro e w1 ⟨v, rfl, hH⟩
  go_wp2
  go_ret
  refine ⟨_, rfl, Holds.outer (o := .cells #[.string ps, .string pt, .pointer rp] 29) (o' := .cells #[.string ns, .string nt, .pointer rn] 29) ?_⟩
  simpa using hH

end Go.Proofs.Qxb6614331a
