import Derived.Test.Qxb6003613aModsRuns
namespace Go.Proofs.Qxb6003613aMods
open Go.RowKit Go.Maps

/-! ### a look-up in a map[K]bool that the call made -/
theorem plainElem_bool_inv {H : Type} {P : Program} {e : TypeId} (he : P.underlying e = some .bool) {v : Value} {z : DataW H × List MemPlace} (h : plainElem P e v = some z) : ∃ a, v = .bool a ∧ z = (.lit (.bool a), []) := by
  unfold plainElem at h
  rw [he] at h
  cases v <;> simp at h
  exact ⟨_, rfl, h.symm⟩

theorem wpList_lookup_own_bool {H : Type} {P : Program} (w : World) {ops : Array Oper} {rest : List Oper} {o : Oper} {a : Act} {Q : Exit → Act → World → Prop}
    (hg : o.guard = none) (m x : Operand) (t : TypeId) (hop : o.op = Op.lookup t m x false)
    (k e : TypeId) (K : Keyed P k) (ht : P.underlying t = some (.map k e)) (he : P.underlying e = some .bool) (hz : (zeroValue e).run P w = .ok (.bool false) w) (b n : Nat) (D : DataW H)
    (hm : a.eval m = .map (some b)) (hown : w.ownsMap P k (plainElem P e) b n D) (key : Value) (kl : Lit) (hx : a.eval x = key) (hkey : keyOf P k key = some kl) (c : Bool) (hat : D.atKey kl (.lit (.bool false)) = .lit (.bool c))
    (hK : wpList P ops Q rest (a.put o.dst (.bool c)) w) :
    wpList P ops Q (o :: rest) a w := by
  refine wpList_plain hg fun K' hK' => ?_
  obtain ⟨v, ps, hrun, hv⟩ := hown.lookup K ht hz (plainElem_bool he false) hkey
  obtain ⟨c', rfl, hc⟩ := plainElem_bool_inv he hv
  simp only [Prod.mk.injEq] at hc
  rw [hat] at hc
  have hcc : c = c' := by simpa using hc.1
  subst hcc
  unfold Oper.wp
  simp [execOp, hop, hm, hx, hrun, Result.andThen]
  exact hK' _ _ hK

theorem atKey_fold {H : Type} (u z : DataW H) (x : Int) : ∀ (acc : List Int) (m : DataW H), IsMap m → ((acc.map (Lit.int .i64)).foldl (fun m x => m.put x u) m).atKey (.int .i64 x) z = if x ∈ acc then u else m.atKey (.int .i64 x) z
  | [], m, _ => by simp
  | y :: r, m, hm => by
    rw [List.map_cons, List.foldl_cons, atKey_fold u z x r _ (hm.put _ _)]
    by_cases h1 : x ∈ r
    · simp [h1]
    · by_cases h2 : x = y
      · subst h2
        rw [if_neg h1, if_pos (by simp), atKey_put_same hm (by simp [WideAt.IsKeyLit])]
      · rw [if_neg h1, if_neg (by simp [h1, h2]), atKey_put_other (by simpa using h2)]

/-- The map 'held' behind k rounds. -/
def Hs (ls : List Int) (k : Nat) : DataW Unit := setOf (.lit (.bool true)) ((ls.take k).map (Lit.int .i64))
theorem Hs_zero (ls : List Int) : Hs ls 0 = .map [] := by simp [Hs, setOf]
theorem Hs_succ (ls : List Int) (k : Nat) (hk : k < ls.length) : Hs ls (k + 1) = (Hs ls k).put (.int .i64 (ls.getD k 0)) (.lit (.bool true)) := by
  unfold Hs
  rw [List.take_add_one, List.map_append]
  simp only [List.getElem?_eq_getElem hk, Option.toList_some, List.map_cons, List.map_nil]
  rw [setOf_snoc]
  simp [List.getD, List.getElem?_eq_getElem hk]
theorem Hs_at (ls : List Int) (x : Int) : (Hs ls ls.length).atKey (.int .i64 x) (.lit (.bool false)) = .lit (.bool (decide (x ∈ ls))) := by
  unfold Hs setOf
  rw [atKey_fold _ _ _ _ _ isMap_empty, List.take_length]
  by_cases h : x ∈ ls
  · simp [h]
  · rw [if_neg h, decide_eq_false h]
    rfl

theorem law2 : Keyed Trym.prog 2 := int_keyed Trym.underlying2
theorem zero4 (w : World) : (zeroValue 4).run Trym.prog w = .ok (.bool false) w := by kernel_rfl
theorem run_makeMapHint (w : World) (n : Int) : (Instr.makeMap 33 (some (.int .i64 n))).run Trym.prog w = .ok (.map (some w.heap.size)) (w.alloc (.map #[] 0)) := by
  simp [Instr.makeMap, run_underlying Trym.underlying33, asInt, Result.andThen]
  rfl
theorem under33 : Trym.prog.underlying 33 = some (.map 2 4) := Trym.underlying33

/-- What 'lockedRuns' gathers of the first k runs. -/
def gather (Z : Nat → List Int) (ls : List Int) : Nat → List Int
  | 0 => []
  | k + 1 => gather Z ls k ++ (Z k).takeWhile (fun x => decide (x ∈ ls))
/-- All ids of the first k runs. -/
def flat (Z : Nat → List Int) : Nat → List Int
  | 0 => []
  | k + 1 => flat Z k ++ Z k

theorem gather_le (Z : Nat → List Int) (ls : List Int) : ∀ k, (gather Z ls k).length ≤ (flat Z k).length
  | 0 => Nat.le_refl _
  | k + 1 => by
    have h1 := gather_le Z ls k
    have h2 := (List.takeWhile_sublist (fun x => decide (x ∈ ls)) (l := Z k)).length_le
    simp only [gather, flat, List.length_append]
    omega
theorem flat_mono (Z : Nat → List Int) {k n : Nat} (h : k ≤ n) : (flat Z k).length ≤ (flat Z n).length := by
  induction n with
  | zero => obtain rfl : k = 0 := by omega
            exact Nat.le_refl _
  | succ n ih =>
    by_cases hk : k = n + 1
    · subst hk; exact Nat.le_refl _
    · have := ih (by omega)
      simp only [flat, List.length_append]
      omega
theorem takeWhile_all {p : Int → Bool} : ∀ {l : List Int}, (∀ x ∈ l, p x = true) → l.takeWhile p = l
  | [], _ => rfl
  | x :: r, h => by
    rw [List.takeWhile_cons, if_pos (h x (by simp)), takeWhile_all (fun y hy => h y (by simp [hy]))]
theorem takeWhile_stop {p : Int → Bool} : ∀ {l : List Int} {m : Nat}, (∀ x ∈ l.take m, p x = true) → m < l.length → p (l.getD m 0) = false → l.takeWhile p = l.take m
  | [], m, _, hm, _ => by simp at hm
  | x :: r, 0, _, _, hp => by
    rw [List.takeWhile_cons, if_neg (by simpa using hp)]
    simp
  | x :: r, m + 1, h, hm, hp => by
    rw [List.takeWhile_cons, if_pos (h x (by simp)), takeWhile_stop (m := m) (fun y hy => h y (by simp [hy])) (by simpa using hm) (by simpa using hp)]
    simp

/-- A slice value that owns the numbers zs in memory of the call's own. -/
def OwnsInts (w : World) (base : Nat) (v : Value) (zs : List Int) : Prop := w.ownsRow base 2 1 v zs.length (zs.map (Value.int .i64))
theorem OwnsInts.snoc {w : World} {base : Nat} {v : Value} {zs : List Int} {x : Int} (h : w.ownsRow base 2 1 v (zs.length + 1) (zs.map (Value.int .i64) ++ [Value.int .i64 x])) : OwnsInts w base v (zs ++ [x]) := by
  unfold OwnsInts
  simpa using h
theorem OwnsInts.block_le {w : World} {base : Nat} {v : Value} {zs : List Int} (h : OwnsInts w base v zs) : ∀ k, v.ownBlock = some k → base ≤ k := by
  intro k hk
  rcases h.2 with ⟨rfl, _⟩ | ⟨g, cap, cur, rfl, hb, _⟩
  · cases hk
  · cases hk; exact hb
theorem OwnsInts.ints {w : World} {base : Nat} {v : Value} {zs : List Int} (h : OwnsInts w base v zs) (hw : ∀ z ∈ zs, (Lit.int .i64 z).wf = true) :
    ∃ a' c' b', v = .slice a' zs.length c' ∧ IntsAt w a' zs.length b' 0 zs ∧ (0 < zs.length → base ≤ b') := by
  have h0 := h
  rcases h.2 with ⟨rfl, h2⟩ | ⟨g, cap, cur, rfl, hb, _⟩
  · rw [h2]
    exact ⟨none, 0, 0, rfl, ⟨h2, fun h => absurd h (by omega), fun h => absurd h (by omega), fun i hi => absurd hi (by omega), hw⟩, fun h => absurd h (by omega)⟩
  · refine ⟨some ⟨g, 0, none⟩, cap, g, rfl, intsAt_of_owns h0 rfl (fun i hi => ?_) hw, fun _ => hb⟩
    rw [List.getElem?_map, List.getD, List.getElem?_eq_getElem hi]
    rfl

theorem gather_mem (Z : Nat → List Int) (ls : List Int) : ∀ k z, z ∈ gather Z ls k → ∃ i, i < k ∧ z ∈ Z i
  | 0, z, h => by simp [gather] at h
  | k + 1, z, h => by
    simp only [gather, List.mem_append] at h
    rcases h with h | h
    · obtain ⟨i, hi, hz⟩ := gather_mem Z ls k z h
      exact ⟨i, by omega, hz⟩
    · exact ⟨k, by omega, (List.takeWhile_sublist _).subset h⟩

set_option maxHeartbeats 1600000 in
theorem locked_any (a : Option Addr) (len c b off : Nat) (A : Nat → Option Addr) (L C B O : Nat → Nat) (Z : Nat → List Int) (a1 : Option Addr) (l1 c1 b1 o1 : Nat) (ls : List Int) (w : World)
    (h : RowsAt w a len b off A L C B O Z) (h1 : IntsAt w a1 l1 b1 o1 ls) (hm : len ≤ 1048576) (hm1 : l1 ≤ 1048576) (hfl : (flat Z len).length ≤ 1048576) :
    Calls Trym.prog 13 #[.slice a len c, .slice a1 l1 c1] w (Cloned w (gather Z ls len).length (gather Z ls len)) := by
  have H : Hid (RowsAt w a len b off A L C B O Z ∧ IntsAt w a1 l1 b1 o1 ls) := ⟨h, h1⟩
  have HA : Hid ((0 < len → a = some ⟨b, off, none⟩) ∧ (0 < l1 → a1 = some ⟨b1, o1, none⟩)) := ⟨h.addr, h1.addr⟩
  have Hll : Hid (ls.length = l1) := h1.len_eq
  clear h h1
  obtain ⟨i0, hi, hz0, hz1, hz2⟩ := info_parts info2
  have hmk := run_makeMapHint
  go_enter Trym.func13, Trym.ntmps13
  go_wp2
  go_loopg [18] l1 (fun g i wr => ∃ k : Nat, k ≤ l1 ∧ i = .int .i64 k ∧ g = l1 - k ∧ wr.ownsMap Trym.prog 2 (plainElem Trym.prog 4) w.heap.size k (Hs ls k) ∧ Below w.heap.size w wr)
  case atStart => exact ⟨0, Nat.zero_le _, rfl, rfl, by rw [Hs_zero]; exact World.ownsMap_made _ _ _ _, (Below.refl _ _).alloc (Nat.le_refl _) _⟩
  case round =>
    obtain ⟨k, hk, rfl, hg, hmap, hb⟩ := hrel
    by_cases hlt : k < l1
    · have hx0 := fun w => run_at w (cap := c1) Trym.underlying23 size2 HA.out.2 hlt
      have hd0 : wr.cell? ⟨b1, o1 + k, none⟩ = some (.int .i64 (ls.getD k 0)) := (hb.cell (p := ⟨b1, o1 + k, none⟩) (H.out.2.lt (by omega))).trans (H.out.2.cell k hlt)
      have hwf : (Lit.int .i64 (ls.getD k 0)).wf = true := H.out.2.wf _ (by rw [List.getD, List.getElem?_eq_getElem (by rw [Hll.out]; exact hlt)]; exact List.getElem_mem _)
      have hkey : keyOf Trym.prog 2 (.int .i64 (ls.getD k 0)) = some (.int .i64 (ls.getD k 0)) := keyOf_int_mk Trym.underlying2 hwf
      have Hg : Hid (gk = l1 - k) := hg
      clear hg hwf
      go_wp2_with (at_mapUpdate; refine wpList_mapUpdate_own _ rfl _ _ _ 33 rfl 2 4 law2 under33 (plainElem (H := Unit) Trym.prog 4) w.heap.size k _ rfl hmap (by unfold maxLen; omega) _ _ _ rfl rfl hkey _ [] (plainElem_bool Trym.underlying4 true) ?_; intro w1 hmap1 hgrow1)
      go_roundg (l1 - (k + 1))
      case measure => rw [Hg.out]; omega
      case rel => exact ⟨k + 1, hlt, by go_num, rfl, (Hs_succ ls k (by rw [Hll.out]; exact hlt)).symm ▸ hmap1, hb.grown hgrow1 hb.size (fun j hj => by cases hj; exact Nat.le_refl _)⟩
    · have hkl : l1 = k := by omega
      subst hkl
      have hmap' : wr.ownsMap Trym.prog 2 (plainElem Trym.prog 4) w.heap.size l1 (Hs ls ls.length) := by rw [Hll.out]; exact hmap
      have hsz : w.heap.size + 1 ≤ wr.heap.size := hmap.lt
      have HM : Hid (wr.ownsMap Trym.prog 2 (plainElem Trym.prog 4) w.heap.size l1 (Hs ls ls.length) ∧ Below w.heap.size w wr) := ⟨hmap', hb⟩
      clear hg hmap hmap' hb
      go_wp2
      go_loopg [8, 27] len (fun g v i wr => ∃ k : Nat, k ≤ len ∧ i = .int .i64 k ∧ g = len - k ∧ OwnsInts wr (w.heap.size + 1) v (gather Z ls k) ∧ wr.ownsMap Trym.prog 2 (plainElem Trym.prog 4) w.heap.size l1 (Hs ls ls.length) ∧ Below w.heap.size w wr ∧ w.heap.size + 1 ≤ wr.heap.size)
      case atStart => exact ⟨0, Nat.zero_le _, rfl, rfl, World.ownsRow_nil _ _ _ _, HM.out.1, HM.out.2, hsz⟩
      case round =>
        clear HM hsz
        obtain ⟨k, hk, rfl, hg, hown, hmap, hb, hsz⟩ := hrel
        by_cases hlt : k < len
        · have hx0 := fun w => run_at w (cap := c) Trym.underlying22 size23 HA.out.1 hlt
          have hd0 : wr.cell? ⟨b, off + k, none⟩ = some (.slice (A k) (L k) (C k)) := (hb.cell (p := ⟨b, off + k, none⟩) (H.out.1.lt (by omega))).trans (H.out.1.cell k hlt)
          have HR : Hid (IntsAt w (A k) (L k) (B k) (O k) (Z k)) := H.out.1.row k hlt
          have Hg : Hid (gk = len - k) := hg
          have HM : Hid (OwnsInts wr (w.heap.size + 1) u8 (gather Z ls k) ∧ wr.ownsMap Trym.prog 2 (plainElem Trym.prog 4) w.heap.size l1 (Hs ls ls.length) ∧ Below w.heap.size w wr) := ⟨hown, hmap, hb⟩
          have HF : Hid (∀ m, m ≤ L k → (gather Z ls k ++ (Z k).take m).length ≤ 1048576) := by
            intro m hm
            have g1 := gather_le Z ls k
            have g2 := flat_mono Z (k := k + 1) (n := len) hlt
            have g3 : (Z k).length = L k := HR.out.len_eq
            simp only [flat, List.length_append, List.length_take] at g2 ⊢
            omega
          clear hg hown hmap hb
          have hLk : L k ≤ 1048576 := by
            have g2 := flat_mono Z (k := k + 1) (n := len) hlt
            have g3 : (Z k).length = L k := HR.out.len_eq
            simp only [flat, List.length_append] at g2
            omega
          go_wp2
          go_loopg [8, 33] (L k) (fun g v i wr => ∃ m : Nat, m ≤ L k ∧ i = .int .i64 m ∧ g = L k - m ∧ (∀ x ∈ (Z k).take m, decide (x ∈ ls) = true) ∧ OwnsInts wr (w.heap.size + 1) v (gather Z ls k ++ (Z k).take m) ∧ wr.ownsMap Trym.prog 2 (plainElem Trym.prog 4) w.heap.size l1 (Hs ls ls.length) ∧ Below w.heap.size w wr ∧ w.heap.size + 1 ≤ wr.heap.size)
          case atStart => exact ⟨0, Nat.zero_le _, rfl, rfl, by simp, by simpa using HM.out.1, HM.out.2.1, HM.out.2.2, hsz⟩
          case round =>
            clear HM hsz hd0 hx0
            obtain ⟨m, hm', rfl, hg', hall, hown, hmap, hb, hsz⟩ := hrel
            by_cases hlm : m < L k
            · have hx0 := fun w => run_at w (cap := C k) Trym.underlying23 size2 HR.out.addr hlm
              obtain ⟨x, hx⟩ : ∃ x, (Z k).getD m 0 = x := ⟨_, rfl⟩
              have hd0 : wr.cell? ⟨B k, O k + m, none⟩ = some (.int .i64 x) := by rw [← hx]; exact (hb.cell (p := ⟨B k, O k + m, none⟩) (HR.out.lt (by omega))).trans (HR.out.cell m hlm)
              have hlZ : m < (Z k).length := by rw [HR.out.len_eq]; exact hlm
              have hxm : x = (Z k)[m] := by rw [← hx, List.getD, List.getElem?_eq_getElem hlZ]; rfl
              have hwf : (Lit.int .i64 x).wf = true := HR.out.wf _ (by rw [hxm]; exact List.getElem_mem _)
              have hkey : keyOf Trym.prog 2 (.int .i64 x) = some (.int .i64 x) := keyOf_int_mk Trym.underlying2 hwf
              have hFm := HF.out m hm'
              have Hg' : Hid (gk = L k - m) := hg'
              have HS : Hid (gather Z ls k ++ (Z k).take (m + 1) = (gather Z ls k ++ (Z k).take m) ++ [x] ∧ (Z k).take (m + 1) = (Z k).take m ++ [x]) := by
                have e : (Z k).take (m + 1) = (Z k).take m ++ [x] := by rw [hxm]; exact List.take_succ_eq_append_getElem hlZ
                exact ⟨by rw [e, List.append_assoc], e⟩
              have HX : Hid ((Z k).getD m 0 = x ∧ m < (Z k).length ∧ ∀ x ∈ (Z k).take m, decide (x ∈ ls) = true) := ⟨hx, hlZ, hall⟩
              have hat := Hs_at ls x
              clear hg' hx hxm hall hwf hlZ
              by_cases hin : x ∈ ls
              · rw [decide_eq_true hin] at hat
                have Hat : Hid ((Hs ls ls.length).atKey (.int .i64 x) (.lit (.bool false)) = .lit (.bool true)) := hat
                have Hin : Hid (x ∈ ls) := hin
                clear hat hin
                go_wp2_with (first
                  | (at_lookup; refine wpList_lookup_own_bool _ rfl _ _ 33 rfl 2 4 law2 under33 Trym.underlying4 (zero4 _) w.heap.size l1 (Hs ls ls.length) rfl hmap _ _ rfl hkey true Hat.out ?_)
                  | (at_builtin; refine wpList_append_own _ rfl _ _ 23 rfl (w.heap.size + 1) 2 i0 (.int .i64 0) 1 8 Trym.underlying23 hi hz0 hz1 hz2 rfl (by decide) _ _ _ rfl (hown.alloc _) ⟨wr.heap.size, 0, none⟩ 1 1 [.int .i64 x] rfl rfl (cell_one_new _ _ _) (ints_oneCell .i64 [x]) (by unfold maxLen; omega) (by omega) (by simp; omega) ?_; intro v' w1 hown' hgrow _))
                go_roundg (L k - (m + 1))
                case measure => rw [Hg'.out]; omega
                case rel =>
                  refine ⟨m + 1, hlm, by go_num, rfl, ?_, ?_, (hmap.alloc _).kept hgrow ?_, (hb.alloc (by omega) _).grown hgrow (by simp; omega) (fun k hk => by have := OwnsInts.block_le hown k hk; omega), by have := hgrow.size; simp at this; omega⟩
                  · rw [HS.out.2]
                    intro y hy
                    rcases List.mem_append.1 hy with hy | hy
                    · exact HX.out.2.2 y hy
                    · simp only [List.mem_singleton] at hy
                      rw [hy]; exact decide_eq_true Hin.out
                  · rw [HS.out.1]
                    exact OwnsInts.snoc (by simpa using hown')
                  · intro e
                    have := OwnsInts.block_le hown w.heap.size e.symm
                    omega
              · rw [decide_eq_false hin] at hat
                have Hat : Hid ((Hs ls ls.length).atKey (.int .i64 x) (.lit (.bool false)) = .lit (.bool false)) := hat
                have Hin : Hid (¬ x ∈ ls) := hin
                clear hat hin
                go_wp2_with (at_lookup; refine wpList_lookup_own_bool _ rfl _ _ 33 rfl 2 4 law2 under33 Trym.underlying4 (zero4 _) w.heap.size l1 (Hs ls ls.length) rfl hmap _ _ rfl hkey false Hat.out ?_)
                go_roundg (len - (k + 1))
                case measure => rw [Hg.out]; omega
                case rel =>
                  refine ⟨k + 1, hlt, by go_num, rfl, ?_, hmap, hb, hsz⟩
                  have e : (Z k).takeWhile (fun x => decide (x ∈ ls)) = (Z k).take m := takeWhile_stop HX.out.2.2 HX.out.2.1 (by rw [HX.out.1]; exact decide_eq_false Hin.out)
                  simp only [gather]
                  rw [e]
                  exact hown
            · have hkm : m = (Z k).length := by rw [HR.out.len_eq]; omega
              have HX : Hid (m = (Z k).length ∧ ∀ x ∈ (Z k).take m, decide (x ∈ ls) = true) := ⟨hkm, hall⟩
              clear hkm hall hg'
              go_wp2
              go_roundg (len - (k + 1))
              case measure => rw [Hg.out]; omega
              case rel =>
                refine ⟨k + 1, hlt, by go_num, rfl, ?_, hmap, hb, hsz⟩
                have e0 : (Z k).take m = Z k := by rw [HX.out.1]; exact List.take_length
                have e : (Z k).takeWhile (fun x => decide (x ∈ ls)) = Z k := takeWhile_all (fun y hy => HX.out.2 y (by rw [e0]; exact hy))
                simp only [gather]
                rw [e]
                rw [e0] at hown
                exact hown
        · have hkl : len = k := by omega
          subst hkl
          clear hg
          go_wp2
          go_ret
          obtain ⟨a', c', b', rfl, hI, hlo⟩ := hown.ints (fun z hz => by
            obtain ⟨i, hi, hzi⟩ := gather_mem Z ls len z hz
            exact (H.out.1.row i hi).wf z hzi)
          exact ⟨a', c', b', rfl, hI, fun h0 => by have := hlo h0; omega, hb⟩
end Go.Proofs.Qxb6003613aMods
