import Derived.Test.Qxb6000716aModsWindow
import Derived.Deep.WholeRow
namespace Go.Proofs.Qxb6000716aMods
open Go.RowKit

def SomeBool (w : World) (e : Ending) (w' : World) : Prop := ∃ x, e = .returned (.bool x) ∧ w = w'
theorem bytes_any (a : Option Addr) (len cap : Nat) (w : World) (hm : len ≤ maxLen) : Calls Trym.prog 8 #[.slice a len cap] w (SomeBool w) := by
  unfold maxLen at hm
  by_cases h1 : 1048576 < len
  · go_enter Trym.func8, Trym.ntmps8
    go_wp2
    go_ret
    exact ⟨_, rfl, rfl⟩
  · go_enter Trym.func8, Trym.ntmps8
    go_wp2
    go_ret
    exact ⟨_, rfl, rfl⟩
theorem info5 : (Trym.prog.info? 5).map (fun i => (i.zero, i.size, i.bytes)) = some (some (.int .u8 0), 1, 1) := by kernel_rfl
def Good (w : World) (e : Ending) (w' : World) : Prop := e = .returned (.bool true) ∧ Below w.heap.size w w'

theorem bytesAt_of_owns {w : World} {base g l cap : Nat} {xs : List Value} {z : List Int} (h : w.ownsRow base 5 1 (.slice (some ⟨g, 0, none⟩) l cap) l xs) (hz : z.length = l) (hx : ∀ i, i < l → xs[i]? = some (.int .u8 (z.getD i 0))) (hw : ∀ n ∈ z, (Lit.int .u8 n).wf = true) :
    BytesAt w (some ⟨g, 0, none⟩) l g 0 z := by
  refine ⟨hz, fun _ => rfl, fun _ => ?_, fun i hi => ?_, hw⟩
  · rcases h.2 with ⟨h', _⟩ | ⟨g', cap', cur, h', _, hg, _⟩
    · simp at h'
    · simp only [Value.slice.injEq, Option.some.injEq, Addr.mk.injEq, and_true, true_and] at h'
      obtain ⟨rfl, rfl⟩ := h'
      exact (Array.getElem?_eq_some_iff.1 hg).1
  · rw [Nat.zero_add, h.cellAt i (by omega)]
    exact hx i hi

/-- What the comparing loop reads. -/
def Tabs (wx : World) (gD gL : Nat) (zs : List Int) (cur : Array Value) : Prop :=
  wx.heap[gD]? = some (.cells cur 24 (0, 0)) ∧ wx.heap[gL]? = some (.cells (limArr (scal zs)) 27 (0, 0)) ∧ ∀ i, i < 43 → cur[i]? = some (.int .i64 (dig (scal zs) i))

theorem Tabs.below {wx w6 : World} {gD gL : Nat} {zs : List Int} {cur : Array Value} (h : Tabs wx gD gL zs cur) (hb : Below wx.heap.size wx w6) : Tabs w6 gD gL zs cur :=
  ⟨(hb.block gD (Array.getElem?_eq_some_iff.1 h.1).1).trans h.1, (hb.block gL (Array.getElem?_eq_some_iff.1 h.2.1).1).trans h.2.1, h.2.2⟩

set_option maxRecDepth 100000 in
set_option maxHeartbeats 4000000 in
theorem law_any (a : Option Addr) (len cap b off : Nat) (zs : List Int) (w : World) (h : BytesAt w a len b off zs) (hm : len ≤ maxLen) :
    Calls Trym.prog 3 #[.slice a len cap] w (Good w) := by
  have HB : Hid (Calls Trym.prog 8 #[.slice a len cap] w (SomeBool w)) := bytes_any a len cap w hm
  unfold maxLen at hm
  have H : Hid (BytesAt w a len b off zs) := h
  have ha := h.addr
  clear h
  obtain ⟨i0, hi, hz0, hz1, hz2⟩ := info_parts info5
  by_cases g1 : 1048576 < len
  · clear ha
    go_enter Trym.func3, Trym.ntmps3
    go_wp2_with fail
    refine HB.out.mono ?_
    rintro e w' ⟨x, rfl, rfl⟩
    cases x
    all_goals
      go_wp2
      go_ret
      exact ⟨rfl, Below.refl _ _⟩
  by_cases g2 : len < 32
  · clear ha
    go_enter Trym.func3, Trym.ntmps3
    go_wp2_with fail
    refine HB.out.mono ?_
    rintro e w' ⟨x, rfl, rfl⟩
    cases x
    all_goals
      go_wp2
      go_ret
      exact ⟨rfl, Below.refl _ _⟩
  obtain rfl := ha (by omega)
  go_enter Trym.func3, Trym.ntmps3
  go_wp2_with fail
  refine HB.out.mono ?_
  rintro e w' ⟨x, rfl, rfl⟩
  cases x
  case false =>
    go_wp2
    go_ret
    exact ⟨rfl, Below.refl _ _⟩
  case true =>
    go_wp2_with (at_make; refine wpList_make_full _ rfl _ _ 22 rfl w.heap.size 5 i0 (.int .u8 0) 1 Trym.underlying22 hi hz0 hz1 _ _ _ _ len rfl rfl rfl rfl (by rw [hz2]; omega) (by unfold maxLen; omega) (Nat.le_refl _) ?_; intro w1 hown hgrow)
    have hb1 : Below w.heap.size w w1 := (Below.refl _ _).grown hgrow (Nat.le_refl _) (fun k hk => by cases hk)
    have Hown : Hid (w1.ownsRow w.heap.size 5 1 (.slice (some ⟨w.heap.size, 0, none⟩) len len) len (madeCells (Value.int .u8 0).cells (len * 1)).toList) := hown
    clear hown hgrow
    go_loopg [4] len (fun g i wr => ∃ k : Nat, k ≤ len ∧ i = .int .i64 k ∧ g = len - k ∧ Below w.heap.size w wr ∧ ∃ xs, wr.ownsRow w.heap.size 5 1 (.slice (some ⟨w.heap.size, 0, none⟩) len len) len xs ∧ ∀ i, i < k → xs[i]? = some (.int .u8 (zs.getD i 0)))
    case atStart => exact ⟨0, Nat.zero_le _, rfl, rfl, hb1, _, Hown.out, fun i hi => absurd hi (by omega)⟩
    case round =>
      clear hb1 Hown
      obtain ⟨k, hk, rfl, hg, hb, xs, hown, hxs⟩ := hrel
      by_cases hlt : k < len
      · have hd0 : wr.cell? ⟨b, off + k, none⟩ = some (.int .u8 (zs.getD k 0)) := (hb.cell (p := ⟨b, off + k, none⟩) (H.out.lt (by omega))).trans (H.out.cell k hlt)
        have hcell : ∃ v, wr.cell? ⟨w.heap.size, k, none⟩ = some v := by
          rw [hown.cellAt k (by omega)]
          exact ⟨_, List.getElem?_eq_getElem (by rw [hown.1]; omega)⟩
        obtain ⟨v0, hv0⟩ := hcell
        have hfr := hown.frozenAt k
        have Hg : Hid (gk = len - k) := hg
        have Ha : Hid ((wr.setCell ⟨w.heap.size, k, none⟩ (.int .u8 (zs.getD k 0))).ownsRow w.heap.size 5 1 (.slice (some ⟨w.heap.size, 0, none⟩) len len) len (xs.set k (.int .u8 (zs.getD k 0)))) := (hown.stored k (.int .u8 (zs.getD k 0))).1
        have Hx : Hid (xs.length = len ∧ ∀ i, i < k → xs[i]? = some (.int .u8 (zs.getD i 0))) := ⟨by simpa using hown.1, hxs⟩
        clear hg hown hxs
        go_wp2
        go_roundg (len - (k + 1))
        case measure => rw [Hg.out]; omega
        case rel =>
          refine ⟨k + 1, hlt, by go_num, rfl, hb.setCell (Nat.le_refl _) _, _, Ha.out, fun i hi => ?_⟩
          rw [List.getElem?_set]
          by_cases hik : k = i
          · subst hik
            rw [if_pos rfl, if_pos (by rw [Hx.out.1]; exact hlt)]
          · rw [if_neg hik]
            exact Hx.out.2 i (by omega)
      · have hkl : len = k := by omega
        subst hkl
        have HI : Hid (BytesAt wr (some ⟨w.heap.size, 0, none⟩) len w.heap.size 0 zs) := bytesAt_of_owns hown H.out.len_eq hxs H.out.wf
        have HB1 : Hid (Below w.heap.size w wr) := hb
        clear hown hxs hb hg
        obtain ⟨w2, rfl⟩ : ∃ w2 : World, w2 = wr := ⟨_, rfl⟩
        go_wp2_with fail
        refine (zzdigits_any w.heap.size 0 len len zs w2 HI.out (by omega) (by omega)).mono ?_
        rintro e w3 ⟨cur, rfl, hsz, hcur, hb3⟩
        have hone : cur.all (·.oneCell') = true := by
          rw [Array.all_eq_true]
          intro i hi
          have h3 := hcur i (by rw [← hsz]; exact hi)
          rw [Array.getElem?_eq_getElem hi] at h3
          rw [Option.some.inj h3]
          rfl
        have HC : Hid (cur.size = 43 ∧ ∀ i, i < 43 → cur[i]? = some (.int .i64 (dig (scal zs) i))) := ⟨hsz, hcur⟩
        have HI3 : Hid (BytesAt w3 (some ⟨w.heap.size, 0, none⟩) len w.heap.size 0 zs) := HI.out.below hb3 (fun h0 => HI.out.lt h0)
        have HB3 : Hid (Below w2.heap.size w2 w3) := hb3
        clear hsz hcur hb3
        go_wp2_with (refine wpList_store_row rfl 24 _ _ rfl w3.heap.size cur rfl rfl 24 _ (heap_alloc_new w3 _) (by rw [HC.out.1]; exact cells24) (by rw [HC.out.1]; rfl) hone ?_; rw [World.setRow_alloc_new])
        have HI4 : Hid (BytesAt (w3.alloc (.cells cur 24)) (some ⟨w.heap.size, 0, none⟩) len w.heap.size 0 zs) := HI3.out.below (B := w3.heap.size) ((Below.refl _ _).alloc (Nat.le_refl _) _) (fun h0 => HI3.out.lt h0)
        refine (limbs_any w.heap.size 0 len len zs _ HI4.out (by omega) (by omega)).mono ?_
        rintro e w5 ⟨rfl, hb5⟩
        have HB5 : Hid (Below (w3.alloc (.cells cur 24)).heap.size (w3.alloc (.cells cur 24)) w5) := hb5
        clear hb5
        go_wp2
        go_loopg [7, 8] 43 (fun g br i wx => ∃ k : Nat, k ≤ 43 ∧ i = .int .i64 k ∧ g = 43 - k ∧ br = .int .i64 (-(cy (scal zs) k : Int)) ∧ Tabs wx w3.heap.size w5.heap.size zs cur ∧ Below w.heap.size w wx)
        case atStart =>
          have s1 := HB1.out.size
          have s3 := HB3.out.size
          have s5 := HB5.out.size
          rw [World.size_alloc] at s5
          refine ⟨0, Nat.zero_le _, rfl, rfl, rfl, ⟨?_, heap_alloc_new w5 _, HC.out.2⟩, ?_⟩
          · rw [heap_alloc_old w5 _ (by omega), HB5.out.block _ (by rw [World.size_alloc]; omega)]
            exact heap_alloc_new w3 _
          · exact (((HB1.out.trans (HB3.out.mono s1)).alloc (by omega) _).trans (HB5.out.mono (by rw [World.size_alloc]; omega))).alloc (by omega) _
        case round =>
          obtain ⟨k, hk, rfl, hg, rfl, htab, hb⟩ := hrel
          have Hg : Hid (gk = 43 - k) := hg
          have HT : Hid (Tabs wr w3.heap.size w5.heap.size zs cur) := htab
          have HBk : Hid (Below w.heap.size w wr) := hb
          clear hg htab hb
          obtain ⟨c, hc⟩ : ∃ c, cy (scal zs) k = c := ⟨_, rfl⟩
          have hc1 : c ≤ 1 := by rw [← hc]; exact cy_le _ _
          have HCy : Hid (cy (scal zs) k = c) := hc
          rw [hc]
          clear hc
          by_cases hlt : k < 43
          · obtain ⟨W, hW⟩ : ∃ W, win (scal zs) k = W := ⟨_, rfl⟩
            have hW64 : W < 64 := by rw [← hW]; exact win_lt _ _
            have HWn : Hid (win (scal zs) k = W) := hW
            have HCall : Hid (∀ w : World, Calls Trym.prog 11 #[.agg #[.int .u64 (lim (scal zs) 0 : Int), .int .u64 (lim (scal zs) 1 : Int), .int .u64 (lim (scal zs) 2 : Int), .int .u64 (lim (scal zs) 3 : Int)], .int .i64 k] w fun e w' => e = .returned (.int .i64 W) ∧ Below w.heap.size w w') := by
              intro w
              have := window_any (scal zs) k (scal_lt H.out.wf) hlt w
              rwa [hW] at this
            have hcell : wr.cell? ⟨w3.heap.size, k, none⟩ = some (.int .i64 (dig (scal zs) k)) := by
              rw [cell_of_row wr _ k cur 24 (0, 0) HT.out.1]
              exact HT.out.2.2 k hlt
            have hL : wr.heap[w5.heap.size]? = some (.cells #[.int .u64 (lim (scal zs) 0 : Int), .int .u64 (lim (scal zs) 1 : Int), .int .u64 (lim (scal zs) 2 : Int), .int .u64 (lim (scal zs) 3 : Int)] 27 (0, 0)) := HT.out.2.1
            have HL : Hid _ := hL
            clear hW hL
            by_cases hbig : 32 < c + W
            · have hcy : cy (scal zs) (k + 1) = 1 := cy_yes (by rw [HCy.out, HWn.out]; exact hbig)
              have hdig : dig (scal zs) k = (c : Int) + W - 64 := by unfold dig; rw [hcy, HCy.out, HWn.out]; rfl
              rw [hdig] at hcell
              have Hcy : Hid (cy (scal zs) (k + 1) = 1) := hcy
              clear hcy hdig
              go_wp2_with (refine wpList_load_row rfl 27 _ rfl w5.heap.size rfl 27 _ (0, 0) _ HL Trym.underlying27 rfl cells27 ?_)
              refine (HCall.out _).mono ?_
              rintro e w6 ⟨rfl, hb6⟩
              have HB6 : Hid (Below wr.heap.size wr w6) := hb6
              clear hb6
              go_wp2
              go_roundg (43 - (k + 1))
              case measure => rw [Hg.out]; omega
              case rel => exact ⟨k + 1, hlt, by go_num, rfl, by rw [Hcy.out]; rfl, HT.out.below HB6.out, HBk.out.trans (HB6.out.mono HBk.out.size)⟩
            · have hcy : cy (scal zs) (k + 1) = 0 := cy_no (by rw [HCy.out, HWn.out]; exact hbig)
              have hdig : dig (scal zs) k = (c : Int) + W := by unfold dig; rw [hcy, HCy.out, HWn.out]; simp
              rw [hdig] at hcell
              have Hcy : Hid (cy (scal zs) (k + 1) = 0) := hcy
              clear hcy hdig
              go_wp2_with (refine wpList_load_row rfl 27 _ rfl w5.heap.size rfl 27 _ (0, 0) _ HL Trym.underlying27 rfl cells27 ?_)
              refine (HCall.out _).mono ?_
              rintro e w6 ⟨rfl, hb6⟩
              have HB6 : Hid (Below wr.heap.size wr w6) := hb6
              clear hb6
              go_wp2
              go_roundg (43 - (k + 1))
              case measure => rw [Hg.out]; omega
              case rel => exact ⟨k + 1, hlt, by go_num, rfl, by rw [Hcy.out]; rfl, HT.out.below HB6.out, HBk.out.trans (HB6.out.mono HBk.out.size)⟩
          · have hk43 : k = 43 := by omega
            subst hk43
            have hc0 : c = 0 := by rw [← HCy.out]; exact cy_last (scal_lt H.out.wf)
            subst hc0
            go_wp2
            go_ret
            exact ⟨rfl, HBk.out⟩
end Go.Proofs.Qxb6000716aMods
