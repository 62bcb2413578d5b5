import Derived.Test.YbulkapoqDoorW4
namespace Go.Proofs.YbulkapoqDoor
open Go.RowKit

theorem at_calls {B T : Nat} {np tp : List Nat} {n e : Nat} {w : World} (R : Rep B T np tp n e w) (i pg : Nat) (hi : i < n) (hn : n < 2147483647) (hpg : Hid (np.getD (i / 4096) 0 = pg)) :
    Calls Ybad.prog 6 #[.pointer (some ⟨T, 0, none⟩), .int .i32 i] w fun e' w' => e' = .returned (.pointer (some ⟨pg, i % 4096 * 7, none⟩)) ∧ w' = w := by
  obtain rfl := hpg.out
  have C := R.core
  have fN := R.fitN
  have hr : i / 4096 < np.length := by omega
  obtain ⟨ao, cap, h0, ho0⟩ := C.c0
  obtain ⟨g, rfl⟩ := owns_some ho0 (by omega)
  exact at_any w T 0 i np.length cap g _ (by omega) hr h0 (by rw [ho0.cellAt _ (by omega)]; exact mapget pgv np _ hr)

theorem foldl_push (l : List UInt8) : ∀ (s : ByteArray), (l.map fun x => (x.toNat : Int)).foldl (fun r n => r.push (UInt8.ofNat n.toNat)) s = ⟨s.data ++ l.toArray⟩ := by
  induction l with
  | nil => intro s; simp
  | cons x l ih =>
    intro s
    simp only [List.map_cons, List.foldl_cons]
    rw [ih]
    have : UInt8.ofNat ((x.toNat : Int)).toNat = x := by simp
    rw [this]
    simp [ByteArray.push]

/-- A row of bytes in the midst of a block, as a string. -/
theorem run_range_string (w : World) (b o cap : Nat) (s : ByteArray) (h : w.rangeAt b o (bytesOf s)) :
    (convert 63 9 (.slice (some ⟨b, o, none⟩) s.size cap)).run Ybad.prog w = .ok (.string s) w := by
  rw [run_convert_bytes_string w 63 9 5 _ _ _ Ybad.underlying63 Ybad.underlying5 Ybad.underlying9]
  have e1 : bytesOf s = (s.data.toList.map fun x => (x.toNat : Int)).map (Value.int .u8) := by simp [bytesOf]
  have hl : (loadCells ⟨b, o, none⟩ s.size).run Ybad.prog w = .ok ((s.data.toList.map fun x => (x.toNat : Int)).map (Value.int .u8)).toArray w := by
    have := run_loadCells_list (P := Ybad.prog) w ⟨b, o, none⟩ (bytesOf s) (fun j v hv => by rw [Addr.add_mid]; exact h j v hv)
    rw [length_bytesOf] at this
    rw [this, e1]
  rw [run_bytesToString w _ _ _ _ hl, foldl_push]
  simp

set_option maxHeartbeats 1000000 in
set_option maxRecDepth 100000 in
theorem holds_none (w : World) (T : Nat) (a : Int) :
    Calls Ybad.prog 7 #[.pointer (some ⟨T, 0, none⟩), .int .u32 a, .string ⟨#[]⟩] w fun e' w' => e' = .returned (.bool true) ∧ w' = w := by
  go_enter Ybad.func7, Ybad.ntmps7
  go_wp2
  go_ret
  exact ⟨rfl, rfl⟩

set_option maxHeartbeats 1000000 in
set_option maxRecDepth 100000 in
theorem holds_some (w : World) (T a L cap g pg : Nat) (s : ByteArray) (hs0 : 0 < s.size) (hs1 : s.size ≤ 65536) (ha : a < 4294967296) (hL : L < 100000)
   (hct : w.cell? ⟨T, 4, none⟩ = some (.slice (some ⟨g, 0, none⟩) L cap)) (hi : a / 65536 < L)
   (hp : w.cell? ⟨g, a / 65536, none⟩ = some (.slice (some ⟨pg, 0, none⟩) 65536 65536)) (hin : a % 65536 + s.size ≤ 65536)
   (hrun : ∀ cap, (convert 63 9 (.slice (some ⟨pg, a % 65536, none⟩) s.size cap)).run Ybad.prog w = .ok (.string s) w) :
    Calls Ybad.prog 7 #[.pointer (some ⟨T, 0, none⟩), .int .u32 a, .string s] w fun e' w' => e' = .returned (.bool true) ∧ w' = w := by
  have e0 : ((s.size : Int) == 0) = false := beq_eq_false_iff_ne.2 (by omega)
  go_enter Ybad.func7, Ybad.ntmps7
  go_wp2
  go_ret
  exact ⟨rfl, rfl⟩

theorem holds_calls {B T : Nat} {np tp : List Nat} {n e : Nat} {w : World} (R : Rep B T np tp n e w) (hb : tp.length < 16000) (a : Nat) (ha : a < 4294967296) (s : ByteArray) (h : TextAt tp w a s) :
    Calls Ybad.prog 7 #[.pointer (some ⟨T, 0, none⟩), .int .u32 a, .string s] w fun e' w' => e' = .returned (.bool true) ∧ w' = w := by
  by_cases h0 : s.size = 0
  · have hs0 : s = ⟨#[]⟩ := by
      have : s.data = #[] := Array.eq_empty_of_size_eq_zero h0
      cases s; simp_all
    subst hs0
    exact holds_none w T a
  · rcases h with h | ⟨h1, h2, h3⟩
    · exact absurd h h0
    · have C := R.core
      obtain ⟨ao, cap, h4, ho4⟩ := C.c4
      obtain ⟨g, rfl⟩ := owns_some ho4 (by omega)
      exact holds_some w T a tp.length cap g _ s (by omega) (by omega) ha (by omega) h4 h1 (by rw [ho4.cellAt _ (by omega)]; exact mapget tgv tp _ h1) h2 (fun cap => run_range_string w _ _ cap s h3)

/-- The empty tree: what '&tree{}' holds. -/
def tree0 : Array Value := #[.slice none 0 0, .int .i64 0, .slice none 0 0, .int .i64 0, .slice none 0 0, .int .u32 0, .slice none 0 0, .map none, .int .i32 0, .slice none 0 0, .int .i64 0, .int .u64 0, .map none, .int .i64 0, .int .i64 0, .int .i64 0, .int .i64 0, .int .i64 0, .int .i64 0, .slice none 0 0]
theorem rep0 (w : World) : Rep w.heap.size w.heap.size [] [] 0 0 (w.alloc (.cells tree0 44)) := by
  have hb : (w.alloc (.cells tree0 44)).heap[w.heap.size]? = some (.cells tree0 44 (0, 0)) := heap_alloc_new w _
  have hc : ∀ j, (w.alloc (.cells tree0 44)).cell? ⟨w.heap.size, j, none⟩ = tree0[j]? := fun j => cell_of_row _ _ _ _ _ _ hb
  refine ⟨⟨Nat.le_refl _, ⟨tree0, hb, rfl⟩, ⟨none, 0, hc 0, World.ownsRow_nil _ _ _ _⟩, hc 1, ⟨none, 0, hc 4, World.ownsRow_nil _ _ _ _⟩, hc 5, by simp, by simp, by simp, by simp⟩, rfl, by simp⟩

theorem Rep.alloc {B T : Nat} {np tp : List Nat} {n e : Nat} {w : World} (R : Rep B T np tp n e w) (o : Obj) : Rep B T np tp n e (w.alloc o) :=
  ⟨R.core.kept none (grown_alloc w o none) (fun b hb => by cases hb), R.fitN, R.fitT⟩
theorem Rep.drewN {B T : Nat} {np tp : List Nat} {n e : Nat} {w : World} (R : Rep B T np tp n e w) (q : Nat) : Rep B T np tp n e (w.drewN q) :=
  ⟨R.core.kept none (grown_drewN w q none) (fun b hb => by cases hb), R.fitN, R.fitT⟩
theorem TextAt.alloc {B T : Nat} {np tp : List Nat} {n e : Nat} {w : World} (R : Rep B T np tp n e w) {a : Nat} {s : ByteArray} (h : TextAt tp w a s) (o : Obj) : TextAt tp (w.alloc o) a s := by
  have := TextAt.keep (ext := []) (w' := w.alloc o) h (fun b hb => Below.heap_alloc _ _ _ (R.core.tpg b hb).2.lt)
  rw [List.append_nil] at this
  exact this
theorem NodeAt.alloc {B T : Nat} {np tp : List Nat} {n e : Nat} {w : World} (R : Rep B T np tp n e w) {i : Nat} {vs : List Value} (h : NodeAt np w i vs) (o : Obj) : NodeAt np (w.alloc o) i vs := by
  have := NodeAt.keep (ext := []) (w' := w.alloc o) h (fun b hb => Below.heap_alloc _ _ _ (R.core.npg b hb).2.lt)
  rw [List.append_nil] at this
  exact this

/-- After j empty records. -/
def Inv0 (w : World) (j : Nat) (wr : World) : Prop := ∃ np tp, Rep w.heap.size w.heap.size np tp j 0 wr ∧ Below w.heap.size w wr
theorem inv0_start (w : World) : Inv0 w 0 (w.alloc (.cells tree0 44)) := ⟨[], [], rep0 w, (Below.refl _ _).alloc (Nat.le_refl _) _⟩
theorem inv0_step {w wr : World} {j : Nat} (h : Inv0 w j wr) (hj : j < 10000) :
    Calls Ybad.prog 5 #[.pointer (some ⟨w.heap.size, 0, none⟩), .string ⟨#[]⟩, .int .i32 0, .int .i32 0, .int .i32 0, .int .u8 0] wr fun e w' => e = .returned (.tuple #[.int .i32 j, .nilIface]) ∧ Inv0 w (j + 1) w' := by
  obtain ⟨np, tp, R, b⟩ := h
  have f := R.fitT
  refine (newNode_calls R ⟨#[]⟩ (by decide) (by omega) (by omega) 0 0 0 0).mono ?_
  rintro e w' ⟨rfl, np', tp', P⟩
  exact ⟨rfl, np', tp', P.rep, b.trans P.bel⟩

set_option maxHeartbeats 1000000 in
set_option maxRecDepth 100000 in
theorem many_walk (n : Int) (s : ByteArray) (p f q t : Int) (w : World) (hn0 : 0 ≤ n) (hn1 : n ≤ 65535) (hs : s.size ≤ 1024) :
    Calls Ybad.prog 4 #[.int .u16 n, .string s, .int .i32 p, .int .i32 f, .int .i32 q, .int .u8 t] w fun e w' => e = .returned (.bool true) ∧ Below w.heap.size w w' := by
  have d0 : decide (1024 < (s.size : Int)) = false := by simp; omega
  obtain ⟨K, hK, hK1⟩ : ∃ K : Nat, Hid (n % 5000 = (K : Int)) ∧ K < 5000 := ⟨(n % 5000).toNat, by unfold Hid; omega, by omega⟩
  go_enter Ybad.func4, Ybad.ntmps4
  go_wp2_with fail
  rw [hK.out]
  clear hK
  go_loopw [15] (fun i wr => ∃ j : Nat, j ≤ K ∧ i = .int .i64 j ∧ Inv0 w j wr) (fun i _ => K - (intOf i).toNat)
  case atStart => exact ⟨0, Nat.zero_le _, rfl, inv0_start w⟩
  case round =>
    obtain ⟨j, hj, rfl, hI⟩ := hrel
    by_cases hlt : j < K
    · have e1 : ((j : Int) != (j : Int)) = false := by simp
      go_wp2_with (first | (go_at_call 5; refine (inv0_step hI (by omega)).mono ?_; rintro e w' ⟨rfl, hI'⟩))
      go_roundw
      case rel => exact ⟨j + 1, by omega, by go_num, hI'⟩
      case measure => simp [intOf]; omega
    · have hjK : j = K := by omega
      subst hjK
      obtain ⟨np, tp, R, b⟩ := hI
      have hfit := R.fitT
      have HR := hide R
      have Hb := hide b
      clear R b
      go_wp2_with fail
      refine (newNode_calls HR s hs (by omega) (by omega) p f q t).mono ?_
      rintro e w1 ⟨rfl, np', tp', P⟩
      have ha0 : atOf 0 s.size = 0 := by unfold atOf; simp
      have he0 : endOf 0 s.size = s.size := by unfold endOf; rw [ha0]; simp
      obtain ⟨Prep, Pbel, Pnew, _, Ptxt, _⟩ := P
      rw [ha0] at Pnew Ptxt
      rw [he0] at Prep
      obtain ⟨ao, cap, h0, _⟩ := Prep.core.c0
      have h1 : w1.cell? ⟨w.heap.size, 1, none⟩ = some (.int .i64 ((j : Int) + 1)) := by rw [Prep.core.c1]; simp
      have fN := Prep.fitN
      have fT := Prep.fitT
      have b1 : ((j : Int) + 1 != (j : Int) + 1) = false := by simp
      have b2 : ((np'.length : Int) != ((j : Int) + 1 + 4095) / 4096) = false := by simp; omega
      obtain ⟨_, _, hrg⟩ := Pnew
      obtain ⟨pg, hpg⟩ : ∃ pg, np'.getD (j / 4096) 0 = pg := ⟨_, rfl⟩
      rw [hpg] at hrg
      have Hpg := hide hpg
      clear hpg
      have g0 : w1.cell? ⟨pg, j % 4096 * 7, none⟩ = some (.int .u32 0) := hrg 0 _ rfl
      have g1 : w1.cell? ⟨pg, j % 4096 * 7 + 1, none⟩ = some (.int .u32 s.size) := hrg 1 _ rfl
      have g2 : w1.cell? ⟨pg, j % 4096 * 7 + 2, none⟩ = some (.int .i32 p) := hrg 2 _ rfl
      have g3 : w1.cell? ⟨pg, j % 4096 * 7 + 3, none⟩ = some (.int .i32 f) := hrg 3 _ rfl
      have g4 : w1.cell? ⟨pg, j % 4096 * 7 + 4, none⟩ = some (.int .i32 q) := hrg 4 _ rfl
      have g5 : w1.cell? ⟨pg, j % 4096 * 7 + 5, none⟩ = some (.int .u8 t) := hrg 5 _ rfl
      have g6 : w1.cell? ⟨pg, j % 4096 * 7 + 6, none⟩ = some (.int .u8 0) := hrg 6 _ rfl
      have HP := hide Prep
      have HPb := hide Pbel
      have HPt := hide Ptxt
      have HfN := hide fN
      clear Prep Pbel Ptxt fN hrg ha0 he0
      go_wp2_with (first | (go_at_call 6; refine (at_calls HP.out j pg (by omega) (by omega) Hpg).mono ?_; rintro e w' ⟨rfl, rfl⟩))
      have hh := fun o => holds_calls (HP.out.alloc o) (by omega) 0 (by decide) s (TextAt.alloc HP.out HPt.out o)
      rw [show ((0 : Nat) : Int) = 0 from rfl] at hh
      refine (hh _).mono ?_
      rintro e w2 ⟨rfl, rfl⟩
      go_wp2
      go_ret
      have bb := Hb.out.trans HPb.out
      exact ⟨rfl, bb.alloc bb.size _⟩

set_option maxHeartbeats 1000000 in
set_option maxRecDepth 100000 in
theorem many_long (n : Int) (s : ByteArray) (p f q t : Int) (w : World) (hs : 1024 < s.size) :
    Calls Ybad.prog 4 #[.int .u16 n, .string s, .int .i32 p, .int .i32 f, .int .i32 q, .int .u8 t] w fun e w' => e = .returned (.bool true) ∧ Below w.heap.size w w' := by
  have d0 : decide (1024 < (s.size : Int)) = true := by simp; omega
  go_enter Ybad.func4, Ybad.ntmps4
  go_wp2
  go_ret
  exact ⟨rfl, Below.refl _ _⟩
end Go.Proofs.YbulkapoqDoor
