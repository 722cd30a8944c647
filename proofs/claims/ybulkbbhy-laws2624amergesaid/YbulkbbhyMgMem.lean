/-
  The law's own memory while the segments are built: the directory, the row of items, the segments. PutUint64 (6), PutUint32 (7), zzs2624abefore (8) by contracts over that.
-/
import Derived.Test.YbulkbbhyMgSort
import Derived.Laws.IdiomCopy
import Derived.ArgAppend
namespace Go.Proofs.Ybulkbbhy.Mg
open Go.RowKit

theorem grown_setCells (b : Nat) : ∀ (vs : List Value) (o : Nat) (w : World), w.grownBy (w.setCells b o vs) (some b)
  | [], _, _ => grown_refl _ _
  | _ :: r, o, _ => grown_trans (grown_set _ _ _ _) (grown_setCells b r (o + 1) _)
theorem grown_alloc (w : World) (o : Obj) (row : Option Nat) : w.grownBy (w.alloc o) row :=
  ⟨rfl, rfl, rfl, by simp, fun k hk _ => Below.heap_alloc _ _ _ hk⟩
theorem grown_below {w w' : World} (row : Option Nat) (h : Below w.heap.size w w') : w.grownBy w' row := ⟨h.os, h.tape, h.output, h.size, fun k hk _ => h.block k hk⟩

/-- A block of N cells of type t. -/
def RowN (w : World) (b N : Nat) (t : TypeId) : Prop := ∃ cur : Array Value, w.heap[b]? = some (.cells cur t (0, 0)) ∧ cur.size = N
section
variable {w w' : World} {b N : Nat} {t : TypeId}
theorem RowN.set (H : RowN w b N t) (o : Nat) (v : Value) : RowN (w.setCell ⟨b, o, none⟩ v) b N t := by
  obtain ⟨cur, h, hs⟩ := H; exact ⟨_, heap_setCell_same _ _ _ _ _ _ h, by simpa using hs⟩
theorem RowN.setCells : ∀ (vs : List Value) (o : Nat) (w : World), RowN w b N t → RowN (w.setCells b o vs) b N t
  | [], _, _, H => H
  | v :: r, o, _, H => RowN.setCells r (o + 1) _ (H.set o v)
theorem RowN.some (H : RowN w b N t) {j : Nat} (hj : j < N) : (w.cell? ⟨b, j, none⟩).isSome = true := by
  obtain ⟨cur, hb, hn⟩ := H; rw [cell_of_row _ _ _ _ _ _ hb, Array.getElem?_eq_getElem (by omega)]; rfl
theorem RowN.free (H : RowN w b N t) (j : Nat) : w.frozen? ⟨b, j, none⟩ = false := by
  obtain ⟨cur, hb, hn⟩ := H; exact frozen_of_row _ _ _ _ _ hb
theorem RowN.lt (H : RowN w b N t) : b < w.heap.size := by obtain ⟨cur, hb, _⟩ := H; exact lt_of_block hb
theorem RowN.of_block (H : RowN w b N t) (e : w'.heap[b]? = w.heap[b]?) : RowN w' b N t := by
  obtain ⟨cur, hb, hn⟩ := H; exact ⟨cur, e.trans hb, hn⟩
theorem RowN.ne {b' N' : Nat} {t' : TypeId} (H : RowN w b N t) (H' : RowN w b' N' t') (ht : t ≠ t') : b ≠ b' := by
  rintro rfl
  obtain ⟨cur, hb, _⟩ := H
  obtain ⟨cur', hb', _⟩ := H'
  have e := hb.symm.trans hb'
  injection e with e
  injection e with _ e2 _
  exact ht e2
end
theorem ItBlk.row {w : World} {b T m : Nat} {cnt : Nat → Nat → Nat} {it : Nat → Pl} (H : ItBlk w b T m cnt it) : RowN w b (T * 4) 36 := by
  obtain ⟨cur, hb, hn, _⟩ := H; exact ⟨cur, hb, hn⟩

theorem bytes_set {w : World} {b o N : Nat} {t : TypeId} (l : List UInt8) (H : RowN w b N t) (h : o + l.length ≤ N) : BytesAt (w.setCells b o (Lib.byteCells l)) b o l := by
  intro j u hj
  have hjl : j < l.length := by
    rcases Nat.lt_or_ge j l.length with h | h
    · exact h
    · rw [List.getElem?_eq_none h] at hj; cases hj
  rw [World.cell?_setCells_in b _ o w (fun j hj => H.some (by rw [Lib.byteCells_length] at hj; omega)) j (by rw [Lib.byteCells_length]; exact hjl)]
  have e : l[j] = u := by rw [List.getElem?_eq_getElem hjl] at hj; injection hj
  simp [Lib.byteCells, e]
theorem bytes_keep {w : World} {b o o' : Nat} {l l' : List UInt8} (h : BytesAt w b o' l') (hd : o' + l'.length ≤ o ∨ o + l.length ≤ o') : BytesAt (w.setCells b o (Lib.byteCells l)) b o' l' := by
  intro j u hj
  have hjl : j < l'.length := by
    rcases Nat.lt_or_ge j l'.length with h | h
    · exact h
    · rw [List.getElem?_eq_none h] at hj; cases hj
  rw [World.cell?_setCells_out _ _ _ _ _ (fun _ _ => by rw [Lib.byteCells_length]; simp only; omega)]
  exact h j u hj

/-- What a store of bytes leaves. -/
structure Stored (w w' : World) (db N o : Nat) (l : List UInt8) : Prop where
  grown : w.grownBy w' (some db)
  row : RowN w' db N 5
  new : BytesAt w' db o l
  old : ∀ o' l', o' + l'.length ≤ o ∨ o + l.length ≤ o' → BytesAt w db o' l' → BytesAt w' db o' l'
theorem stored {w : World} {db N o : Nat} {l : List UInt8} (H : RowN w db N 5) (h : o + l.length ≤ N) (x : Obj) : Stored w ((w.alloc x).setCells db o (Lib.byteCells l)) db N o l := by
  have Ha : RowN (w.alloc x) db N 5 := H.of_block (Below.heap_alloc _ _ _ H.lt)
  refine ⟨grown_trans (grown_alloc _ _ _) (grown_setCells _ _ _ _), Ha.setCells _ _ _, bytes_set l Ha h, fun o' l' hd hb => bytes_keep ?_ hd⟩
  intro j u hj
  exact (World.cell?_of_block (Below.heap_alloc _ _ _ H.lt)).trans (hb j u hj)

theorem put64 (db o n c v N : Nat) (w : World) (hv : v < 18446744073709551616) (H : RowN w db N 5) (ho : o + 8 ≤ N) (hn : 8 ≤ n) :
    Calls Yba.prog 6 #[.agg #[], .slice (some ⟨db, o, none⟩) n c, .int .u64 v] w fun e w' => e = .returned (.tuple #[]) ∧ Stored w w' db N o (Lib.leBytes 8 v) := by
  obtain ⟨x0, c0⟩ := Option.isSome_iff_exists.1 (H.some (j := o) (by omega))
  obtain ⟨x1, c1⟩ := Option.isSome_iff_exists.1 (H.some (j := o + 1) (by omega))
  obtain ⟨x2, c2⟩ := Option.isSome_iff_exists.1 (H.some (j := o + 2) (by omega))
  obtain ⟨x3, c3⟩ := Option.isSome_iff_exists.1 (H.some (j := o + 3) (by omega))
  obtain ⟨x4, c4⟩ := Option.isSome_iff_exists.1 (H.some (j := o + 4) (by omega))
  obtain ⟨x5, c5⟩ := Option.isSome_iff_exists.1 (H.some (j := o + 5) (by omega))
  obtain ⟨x6, c6⟩ := Option.isSome_iff_exists.1 (H.some (j := o + 6) (by omega))
  obtain ⟨x7, c7⟩ := Option.isSome_iff_exists.1 (H.some (j := o + 7) (by omega))
  refine (Yba.binary_LE_PutUint64 db o n c v hv x0 x1 x2 x3 x4 x5 x6 x7 w hn c0 c1 c2 c3 c4 c5 c6 c7 (H.free _) (H.free _) (H.free _) (H.free _) (H.free _) (H.free _) (H.free _) (H.free _)).mono ?_
  rintro e w' ⟨rfl, rfl⟩
  exact ⟨rfl, stored H (by rw [Lib.leBytes_length]; exact ho) _⟩
theorem put32 (db o n c v N : Nat) (w : World) (hv : v < 4294967296) (H : RowN w db N 5) (ho : o + 4 ≤ N) (hn : 4 ≤ n) :
    Calls Yba.prog 7 #[.agg #[], .slice (some ⟨db, o, none⟩) n c, .int .u32 v] w fun e w' => e = .returned (.tuple #[]) ∧ Stored w w' db N o (Lib.leBytes 4 v) := by
  obtain ⟨x0, c0⟩ := Option.isSome_iff_exists.1 (H.some (j := o) (by omega))
  obtain ⟨x1, c1⟩ := Option.isSome_iff_exists.1 (H.some (j := o + 1) (by omega))
  obtain ⟨x2, c2⟩ := Option.isSome_iff_exists.1 (H.some (j := o + 2) (by omega))
  obtain ⟨x3, c3⟩ := Option.isSome_iff_exists.1 (H.some (j := o + 3) (by omega))
  refine (Yba.binary_LE_PutUint32 db o n c v hv x0 x1 x2 x3 w hn c0 c1 c2 c3 (H.free _) (H.free _) (H.free _) (H.free _)).mono ?_
  rintro e w' ⟨rfl, rfl⟩
  exact ⟨rfl, stored H (by rw [Lib.leBytes_length]; exact ho) _⟩

/-- The directory of one segment: entries before i are whole; of entry i the first p fields are there. -/
structure Dir (w : World) (db N : Nat) (key cs : Nat → Nat) (i p : Nat) : Prop where
  row : RowN w db N 5
  bk : ∀ j, j < i ∨ (j = i ∧ 1 ≤ p) → BytesAt w db (j * 20) (Lib.leBytes 8 (key j))
  bi : ∀ j, j < i ∨ (j = i ∧ 2 ≤ p) → BytesAt w db (j * 20 + 8) (Lib.leBytes 8 j)
  bc : ∀ j, j < i ∨ (j = i ∧ 3 ≤ p) → BytesAt w db (j * 20 + 16) (Lib.leBytes 4 (cs j))
section
variable {w w' w0 : World} {db N i p : Nat} {key cs : Nat → Nat}
theorem Dir.of_block (H : Dir w db N key cs i p) (e : w'.heap[db]? = w.heap[db]?) : Dir w' db N key cs i p :=
  ⟨H.row.of_block e, fun j h x u hx => (World.cell?_of_block (a := ⟨db, _, none⟩) e).trans (H.bk j h x u hx), fun j h x u hx => (World.cell?_of_block (a := ⟨db, _, none⟩) e).trans (H.bi j h x u hx), fun j h x u hx => (World.cell?_of_block (a := ⟨db, _, none⟩) e).trans (H.bc j h x u hx)⟩
theorem Dir.zero (H : RowN w db N 5) : Dir w db N key cs 0 0 := ⟨H, fun j h => by omega, fun j h => by omega, fun j h => by omega⟩
theorem Dir.more (H : Dir w db N key cs i 3) : Dir w db N key cs (i + 1) 0 :=
  ⟨H.row, fun j h => H.bk j (by omega), fun j h => H.bi j (by omega), fun j h => H.bc j (by omega)⟩
theorem Dir.putK (H : Dir w db N key cs i 0) (h : Stored w w' db N (i * 20) (Lib.leBytes 8 (key i))) : Dir w' db N key cs i 1 where
  row := h.row
  bk := fun j hj => by
    by_cases e : j = i
    · subst e; exact h.new
    · exact h.old _ _ (by simp only [Lib.leBytes_length]; omega) (H.bk j (by omega))
  bi := fun j hj => h.old _ _ (by simp only [Lib.leBytes_length]; omega) (H.bi j (by omega))
  bc := fun j hj => h.old _ _ (by simp only [Lib.leBytes_length]; omega) (H.bc j (by omega))
theorem Dir.putI (H : Dir w db N key cs i 1) (h : Stored w w' db N (i * 20 + 8) (Lib.leBytes 8 i)) : Dir w' db N key cs i 2 where
  row := h.row
  bk := fun j hj => h.old _ _ (by simp only [Lib.leBytes_length]; omega) (H.bk j (by omega))
  bi := fun j hj => by
    by_cases e : j = i
    · subst e; exact h.new
    · exact h.old _ _ (by simp only [Lib.leBytes_length]; omega) (H.bi j (by omega))
  bc := fun j hj => h.old _ _ (by simp only [Lib.leBytes_length]; omega) (H.bc j (by omega))
theorem Dir.putC (H : Dir w db N key cs i 2) (h : Stored w w' db N (i * 20 + 16) (Lib.leBytes 4 (cs i))) : Dir w' db N key cs i 3 where
  row := h.row
  bk := fun j hj => h.old _ _ (by simp only [Lib.leBytes_length]; omega) (H.bk j (by omega))
  bi := fun j hj => h.old _ _ (by simp only [Lib.leBytes_length]; omega) (H.bi j (by omega))
  bc := fun j hj => by
    by_cases e : j = i
    · subst e; exact h.new
    · exact h.old _ _ (by simp only [Lib.leBytes_length]; omega) (H.bc j (by omega))
end

/-- While one segment is built. w0: the world before its directory was made. -/
structure L3 (w0 wx : World) (IB T m : Nat) (cnt : Nat → Nat → Nat) (it : Nat → Pl) (db N : Nat) (key cs : Nat → Nat) (i p : Nat) : Prop where
  grown : w0.grownBy wx (some IB)
  its : ItBlk wx IB T m cnt it
  dir : Dir wx db N key cs i p
  ge : w0.heap.size ≤ db
section
variable {w w' w0 wx : World} {IB T m db N i p : Nat} {cnt : Nat → Nat → Nat} {it it' : Nat → Pl} {key cs : Nat → Nat}
theorem L3.ne (H : L3 w0 wx IB T m cnt it db N key cs i p) : IB ≠ db := H.its.row.ne H.dir.row (by decide)
theorem L3.later (H : L3 w0 wx IB T m cnt it db N key cs i p) (hb : Below wx.heap.size wx w') : L3 w0 w' IB T m cnt it db N key cs i p :=
  ⟨grown_trans H.grown (grown_below _ hb), H.its.of_block (hb.block _ H.its.lt), H.dir.of_block (hb.block _ H.dir.row.lt), H.ge⟩
theorem L3.step {p' : Nat} (H : L3 w0 wx IB T m cnt it db N key cs i p) (g : wx.grownBy w' (some db)) (d : Dir w' db N key cs i p') : L3 w0 w' IB T m cnt it db N key cs i p' := by
  have hne := H.ne
  refine ⟨⟨g.os.trans H.grown.os, g.tape.trans H.grown.tape, g.output.trans H.grown.output, Nat.le_trans H.grown.size g.size, fun k hk hn => ?_⟩, H.its.of_block (g.block _ H.its.lt (by simp; exact hne)), d, H.ge⟩
  have := H.ge
  rw [g.block k (Nat.lt_of_lt_of_le hk H.grown.size) (by simp; omega), H.grown.block k hk hn]
theorem L3.items {m' : Nat} (H : L3 w0 wx IB T m cnt it db N key cs i p) (g : wx.grownBy w' (some IB)) (hI : ItBlk w' IB T m' cnt it') : L3 w0 w' IB T m' cnt it' db N key cs i p :=
  ⟨grown_trans H.grown g, hI, H.dir.of_block (g.block _ H.dir.row.lt (by have := H.ne; simp; omega)), H.ge⟩
theorem L3.more (H : L3 w0 wx IB T m cnt it db N key cs i 3) : L3 w0 wx IB T m cnt it db N key cs (i + 1) 0 := ⟨H.grown, H.its, H.dir.more, H.ge⟩

/-- The entry e of the range, copied. -/
def EB (w : World) (eb a c : Nat) : Prop := w.heap[eb]? = some (.cells #[.int .u8 a, .int .u32 c] 30 (0, 0))
theorem EB.row {eb a c : Nat} (H : EB w eb a c) : RowN w eb 2 30 := ⟨_, H, rfl⟩
theorem EB.grown {eb a c b N : Nat} {t : TypeId} (H : EB w eb a c) (hR : RowN w b N t) (ht : t ≠ 30) (g : w.grownBy w' (some b)) : EB w' eb a c :=
  (g.block _ H.row.lt (by have := H.row.ne hR (Ne.symm ht); simp; omega)).trans H
end

/-- THE STATE at the head of the loop over the segments. -/
structure L2 (w wr : World) (SB IB S T m s : Nat) (n DB : Nat → Nat) (key cnt : Nat → Nat → Nat) (it : Nat → Pl) : Prop where
  below : Below w.heap.size w wr
  row : RowN wr SB (S * 10) 40
  seg : SegsAt wr SB s n DB key cnt
  its : ItBlk wr IB T m cnt it
  hSB : w.heap.size ≤ SB
  hIB : w.heap.size ≤ IB
  db : ∀ t, t < s → DB t ≠ IB ∧ DB t ≠ SB
  srt : Its n key it m s 0

theorem SegsAt.grown {w w' : World} {SB IB s : Nat} {n DB : Nat → Nat} {key cnt : Nat → Nat → Nat} (h : SegsAt w SB s n DB key cnt) (g : w.grownBy w' (some IB)) (h1 : SB ≠ IB) (h2 : ∀ t, t < s → DB t ≠ IB) : SegsAt w' SB s n DB key cnt := by
  have eS : w'.heap[SB]? = w.heap[SB]? := g.block _ h.sb (by simp; exact h1)
  have eD : ∀ t, t < s → w'.heap[DB t]? = w.heap[DB t]? := fun t ht => g.block _ (h.lt t ht) (by simp; exact h2 t ht)
  exact ⟨fun t ht => (World.cell?_of_block (a := ⟨SB, _, none⟩) eS).trans (h.c7 t ht), fun t ht => (World.cell?_of_block (a := ⟨SB, _, none⟩) eS).trans (h.c8 t ht), fun t ht => (World.cell?_of_block (a := ⟨SB, _, none⟩) eS).trans (h.c9 t ht),
    fun t ht i hi x u hx => (World.cell?_of_block (a := ⟨DB t, _, none⟩) (eD t ht)).trans (h.bk t ht i hi x u hx), fun t ht i hi x u hx => (World.cell?_of_block (a := ⟨DB t, _, none⟩) (eD t ht)).trans (h.bi t ht i hi x u hx), fun t ht i hi x u hx => (World.cell?_of_block (a := ⟨DB t, _, none⟩) (eD t ht)).trans (h.bc t ht i hi x u hx),
    fun t ht => Nat.lt_of_lt_of_le (h.lt t ht) g.size, Nat.lt_of_lt_of_le h.sb g.size⟩

theorem L2.step {w wr wx : World} {SB IB S T m m' s db : Nat} {n DB : Nat → Nat} {key cnt : Nat → Nat → Nat} {it it' : Nat → Pl} (H : L2 w wr SB IB S T m s n DB key cnt it) (h3 : L3 wr wx IB T m' cnt it' db (n s * 20) (key s) (cnt s) (n s) 0)
    (hs : s < S) (srt : Its n key it' m' s (n s)) (vs : List Value) (hl : vs.length = 10) (h7 : vs[7]? = some (.int .u64 0)) (h8 : vs[8]? = some (.int .u64 0)) (h9 : vs[9]? = some (.slice (some ⟨db, 0, none⟩) (n s * 20) (n s * 20))) :
    L2 w (wx.setCells SB (s * 10) vs) SB IB S T m' (s + 1) n (updN DB s db) key cnt it' := by
  have hSI : SB ≠ IB := H.row.ne H.its.row (by decide)
  have hsz := h3.grown.size
  have hSlt := H.row.lt
  have hSd : db ≠ SB := by have := h3.ge; omega
  have hsegx := H.seg.grown h3.grown hSI (fun t ht => (H.db t ht).1)
  have hrowx : RowN wx SB (S * 10) 40 := H.row.of_block (h3.grown.block _ hSlt (by simp; exact hSI))
  have G := grown_setCells SB vs (s * 10) wx
  have hout : ∀ o, o < s * 10 → (wx.setCells SB (s * 10) vs).cell? ⟨SB, o, none⟩ = wx.cell? ⟨SB, o, none⟩ := fun o ho => World.cell?_setCells_out _ _ _ _ _ (fun _ _ => .inl ho)
  have hin : ∀ j v, vs[j]? = some v → (wx.setCells SB (s * 10) vs).cell? ⟨SB, s * 10 + j, none⟩ = some v := fun j v hv => by
    have hj : j < vs.length := by
      rcases Nat.lt_or_ge j vs.length with h | h
      · exact h
      · rw [List.getElem?_eq_none h] at hv; cases hv
    rw [World.cell?_setCells_in SB vs (s * 10) wx (fun j hj => hrowx.some (by rw [hl] at hj; omega)) j hj]
    rw [List.getElem?_eq_getElem hj] at hv
    exact hv
  have eD : ∀ b, b < wx.heap.size → b ≠ SB → (wx.setCells SB (s * 10) vs).heap[b]? = wx.heap[b]? := fun b hb hne => G.block b hb (by simp; exact hne)
  have hD : ∀ t, t < s + 1 → (updN DB s db t) < wx.heap.size ∧ updN DB s db t ≠ SB ∧ updN DB s db t ≠ IB := by
    intro t ht
    unfold updN
    split
    · exact ⟨h3.dir.row.lt, hSd, h3.ne.symm⟩
    · exact ⟨hsegx.lt t (by omega), (H.db t (by omega)).2, (H.db t (by omega)).1⟩
  refine ⟨?_, hrowx.setCells _ _ _, ?_, h3.its.of_block (eD _ h3.its.lt (Ne.symm hSI)), H.hSB, H.hIB, fun t ht => ⟨(hD t ht).2.2, (hD t ht).2.1⟩, srt.next⟩
  · refine (H.below.grown h3.grown (by have := H.below.size; omega) (fun k e => ?_)).grown G (by have := H.below.size; omega) (fun k e => ?_)
    · simp at e; have := H.hIB; omega
    · simp at e; have := H.hSB; omega
  · have upS : updN DB s db s = db := by simp [updN]
    have upO : ∀ t, t < s → updN DB s db t = DB t := fun t ht => by simp [updN, show t ≠ s by omega]
    refine ⟨fun t ht => ?_, fun t ht => ?_, fun t ht => ?_, fun t ht i hi => ?_, fun t ht i hi => ?_, fun t ht i hi => ?_, fun t ht => Nat.lt_of_lt_of_le (hD t ht).1 G.size, Nat.lt_of_lt_of_le hrowx.lt G.size⟩
    · by_cases e : t = s
      · subst e; exact hin 7 _ h7
      · rw [hout _ (by omega)]; exact hsegx.c7 t (by omega)
    · by_cases e : t = s
      · subst e; exact hin 8 _ h8
      · rw [hout _ (by omega)]; exact hsegx.c8 t (by omega)
    · by_cases e : t = s
      · subst e; rw [upS]; exact hin 9 _ h9
      · rw [hout _ (by omega), upO t (by omega)]; exact hsegx.c9 t (by omega)
    · intro x u hx
      refine (World.cell?_of_block (a := ⟨updN DB s db t, _, none⟩) (eD _ (hD t ht).1 (hD t ht).2.1)).trans ?_
      by_cases e : t = s
      · subst e; rw [upS]; exact h3.dir.bk i (.inl hi) x u hx
      · rw [upO t (by omega)]; exact hsegx.bk t (by omega) i hi x u hx
    · intro x u hx
      refine (World.cell?_of_block (a := ⟨updN DB s db t, _, none⟩) (eD _ (hD t ht).1 (hD t ht).2.1)).trans ?_
      by_cases e : t = s
      · subst e; rw [upS]; exact h3.dir.bi i (.inl hi) x u hx
      · rw [upO t (by omega)]; exact hsegx.bi t (by omega) i hi x u hx
    · intro x u hx
      refine (World.cell?_of_block (a := ⟨updN DB s db t, _, none⟩) (eD _ (hD t ht).1 (hD t ht).2.1)).trans ?_
      by_cases e : t = s
      · subst e; rw [upS]; exact h3.dir.bc i (.inl hi) x u hx
      · rw [upO t (by omega)]; exact hsegx.bc t (by omega) i hi x u hx

def itV (p : Pl) (c : Nat) : Value := .agg #[.int .u64 p.k, .int .i64 p.s, .int .i64 p.i, .int .u32 c]

set_option maxHeartbeats 1000000 in
/-- zzs2624abefore. -/
theorem before_any (a b : Pl) (ca cb : Nat) (r : Bool) (w : World) (hr : ltB a b = r) :
    Calls Yba.prog 8 #[.agg #[.int .u64 a.k, .int .i64 a.s, .int .i64 a.i, .int .u32 ca], .agg #[.int .u64 b.k, .int .i64 b.s, .int .i64 b.i, .int .u32 cb]] w fun e w' => e = .returned (.bool r) ∧ Below w.heap.size w w' := by
  subst hr
  have hB : Below w.heap.size w ((w.alloc (.cells #[.int .u64 a.k, .int .i64 a.s, .int .i64 a.i, .int .u32 ca] 36)).alloc (.cells #[.int .u64 b.k, .int .i64 b.s, .int .i64 b.i, .int .u32 cb] 36)) :=
    ((Below.refl _ _).alloc (Nat.le_refl _) _).alloc (by simp) _
  have HB := hide hB
  clear hB
  by_cases h1 : (a.k : Int) < (b.k : Int)
  · have e : ltB a b = true := by unfold ltB; simp; omega
    rw [e]
    go_enter Yba.func8, Yba.ntmps8
    go_wp2
    go_ret
    exact ⟨rfl, HB.out⟩
  · have h1' : decide ((a.k : Int) < (b.k : Int)) = false := by simpa using h1
    by_cases h2 : ((a.k : Int) == (b.k : Int)) = true
    · have e : ltB a b = decide ((a.s : Int) < (b.s : Int)) := by
        have h2' : a.k = b.k := by simp at h2; omega
        unfold ltB
        rw [h2']
        simp
      rw [e]
      go_enter Yba.func8, Yba.ntmps8
      go_wp2
      go_ret
      exact ⟨rfl, HB.out⟩
    · have h2' : ((a.k : Int) == (b.k : Int)) = false := by simpa using h2
      have e : ltB a b = false := by
        have : a.k ≠ b.k := by intro e; rw [e] at h2; simp at h2
        unfold ltB
        simp
        omega
      rw [e]
      go_enter Yba.func8, Yba.ntmps8
      go_wp2
      go_ret
      exact ⟨rfl, HB.out⟩
end Go.Proofs.Ybulkbbhy.Mg
