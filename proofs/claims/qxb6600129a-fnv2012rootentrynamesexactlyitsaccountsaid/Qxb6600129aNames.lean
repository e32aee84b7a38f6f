/- namesVersion2012 -/
import Derived.Test.Qxb6600129aParse
import Derived.Deep.DeepCutAuto
namespace Go.Proofs.Qxb6600129a.Arn
open Go.RowKit
set_option linter.unusedVariables false

/-- the entry's fields as they are read: none where the principal's ARN is of another partition -/
def mism (i p : ByteArray) : Bool := okP p && !((fld i 0).toList == (fld p 0).toList)
def ef (i p : ByteArray) (k : Nat) : ByteArray := if mism i p then emp else fld i k

/-- the answer; rb: the role's way said yes -/
def nv (rb : Bool) (m i p a : ByteArray) : Int × Bool :=
  if aws m i then (2, true) else if rb then (1, true) else if a.toList.isEmpty then (0, false)
  else if isRoot (ef i p 1) (ef i p 2) (ef i p 4) && ((ef i p 3).toList == a.toList) then (0, true)
  else if (i.toList == a.toList) && td a then (0, true) else (0, false)

def NV (e : Ending) (m i p a : ByteArray) : Prop :=
  ∃ rb, e = .returned (.tuple #[.int .i64 (nv rb m i p a).1, .bool (nv rb m i p a).2]) ∧ (rb = true → hp (ef i p 4) ⟨#[114, 111, 108, 101, 47]⟩ = true)

/-- the request as a value -/
def reqV (p a : ByteArray) : Value :=
  .agg #[.string ⟨#[]⟩, .string ⟨#[]⟩, .map none, .int .i64 0, .string p, .string a, .string ⟨#[]⟩, .pointer none]

/-- what the walk holds of its own blocks -/
structure Held (w wx : World) (Be Bp : Nat) (m i p a : ByteArray) (E P : Nat → ByteArray) : Prop where
  bm : wx.cell? ⟨w.heap.size, 0, none⟩ = some (.string m)
  bi : wx.cell? ⟨w.heap.size, 1, none⟩ = some (.string i)
  bp : wx.cell? ⟨w.heap.size + 1, 4, none⟩ = some (.string p)
  ba : wx.cell? ⟨w.heap.size + 1, 5, none⟩ = some (.string a)
  e : ∀ k, k < 5 → wx.cell? ⟨Be, k, none⟩ = some (.string (E k))
  p : ∀ k, k < 5 → wx.cell? ⟨Bp, k, none⟩ = some (.string (P k))
  b : Below w.heap.size w wx

theorem Held.later {w wx wy : World} {Be Bp : Nat} {m i p a : ByteArray} {E P : Nat → ByteArray} (h : Held w wx Be Bp m i p a E P) (hb : Below wx.heap.size wx wy) : Held w wy Be Bp m i p a E P := by
  have c : ∀ b o v, wx.cell? ⟨b, o, none⟩ = some v → wy.cell? ⟨b, o, none⟩ = some v := fun b o v hv => (hb.cell (p := ⟨b, o, none⟩) (World.block_lt_of_cell? wx _ hv)).trans hv
  exact ⟨c _ _ _ h.bm, c _ _ _ h.bi, c _ _ _ h.bp, c _ _ _ h.ba, fun k hk => c _ _ _ (h.e k hk), fun k hk => c _ _ _ (h.p k hk), h.b.trans (hb.mono h.b.size)⟩

set_option maxHeartbeats 1000000 in
theorem names_aws (m i p a : ByteArray) (w : World) (h : aws m i = true) :
    Calls Try.prog 21 #[.agg #[.string m, .string i], reqV p a] w fun e w' => NV e m i p a ∧ Below w.heap.size w w' := by
  unfold reqV
  go_enter Try.func21, Try.ntmps21
  go_wp2_with (go_at_call 23; refine (aws_any _ _ _).mono ?_; rintro e w1 ⟨rfl, hb⟩)
  go_ret2
  refine ⟨⟨false, ?_, fun h => by cases h⟩, (((Below.refl _ _).alloc (Nat.le_refl _) _).alloc (by simp) _).trans (hb.mono (by simp; omega))⟩
  unfold nv
  rw [h]
  rfl

theorem kp {W w1 : World} (hb : Below W.heap.size W w1) {b o : Nat} {v : Value} (h : W.cell? ⟨b, o, none⟩ = some v) : w1.cell? ⟨b, o, none⟩ = some v :=
  (hb.cell (p := ⟨b, o, none⟩) (World.block_lt_of_cell? W _ h)).trans h
theorem ka {W : World} {x : Obj} {b o : Nat} {v : Value} (h : W.cell? ⟨b, o, none⟩ = some v) : (W.alloc x).cell? ⟨b, o, none⟩ = some v :=
  (World.cell?_of_block (Below.heap_alloc W x b (World.block_lt_of_cell? W _ h))).trans h
theorem kn (W : World) (f : Nat → ByteArray) : ∀ k, k < 5 → (W.alloc (.cells #[.string (f 0), .string (f 1), .string (f 2), .string (f 3), .string (f 4)] 49)).cell? ⟨W.heap.size, k, none⟩ = some (.string (f k)) := by
  intro k hk
  rw [cell_of_row _ W.heap.size k _ 49 (0, 0) (heap_alloc_new W _)]
  match k, hk with
  | 0, _ => rfl
  | 1, _ => rfl
  | 2, _ => rfl
  | 3, _ => rfl
  | 4, _ => rfl

/-- the two boxes -/
def W0 (w : World) (m i p a : ByteArray) : World :=
  (w.alloc (.cells #[.string m, .string i] 41)).alloc (.cells #[.string ⟨#[]⟩, .string ⟨#[]⟩, .map none, .int .i64 0, .string p, .string a, .string ⟨#[]⟩, .pointer none] 46)

structure Box (w wx : World) (m i p a : ByteArray) : Prop where
  bm : wx.cell? ⟨w.heap.size, 0, none⟩ = some (.string m)
  bi : wx.cell? ⟨w.heap.size, 1, none⟩ = some (.string i)
  bp : wx.cell? ⟨w.heap.size + 1, 4, none⟩ = some (.string p)
  ba : wx.cell? ⟨w.heap.size + 1, 5, none⟩ = some (.string a)
  b : Below w.heap.size w wx

theorem Box.start (w : World) (m i p a : ByteArray) : Box w (W0 w m i p a) m i p a := by
  have c0 : (w.alloc (.cells #[.string m, .string i] 41)).cell? ⟨w.heap.size, 0, none⟩ = some (.string m) := by
    rw [cell_of_row _ w.heap.size 0 _ 41 (0, 0) (heap_alloc_new w _)]; rfl
  have c1 : (w.alloc (.cells #[.string m, .string i] 41)).cell? ⟨w.heap.size, 1, none⟩ = some (.string i) := by
    rw [cell_of_row _ w.heap.size 1 _ 41 (0, 0) (heap_alloc_new w _)]; rfl
  have hh := heap_alloc_new (w.alloc (.cells #[.string m, .string i] 41)) (.cells #[.string ⟨#[]⟩, .string ⟨#[]⟩, .map none, .int .i64 0, .string p, .string a, .string ⟨#[]⟩, .pointer none] 46)
  have hz : (w.alloc (.cells #[.string m, .string i] 41)).heap.size = w.heap.size + 1 := by simp
  rw [hz] at hh
  refine ⟨ka c0, ka c1, ?_, ?_, ((Below.refl _ _).alloc (Nat.le_refl _) _).alloc (by simp) _⟩
  · unfold W0; rw [cell_of_row _ (w.heap.size + 1) 4 _ 46 (0, 0) hh]; rfl
  · unfold W0; rw [cell_of_row _ (w.heap.size + 1) 5 _ 46 (0, 0) hh]; rfl

theorem Box.later {w wx wy : World} {m i p a : ByteArray} (h : Box w wx m i p a) (hb : Below wx.heap.size wx wy) : Box w wy m i p a :=
  ⟨kp hb h.bm, kp hb h.bi, kp hb h.bp, kp hb h.ba, h.b.trans (hb.mono h.b.size)⟩
theorem Box.al {w wx : World} {m i p a : ByteArray} (h : Box w wx m i p a) (o : Obj) : Box w (wx.alloc o) m i p a :=
  ⟨ka h.bm, ka h.bi, ka h.bp, ka h.ba, h.b.alloc h.b.size o⟩
theorem Box.set {w wx : World} {m i p a : ByteArray} (h : Box w wx m i p a) {Be k : Nat} {v : Value} (hB : w.heap.size + 1 < Be) : Box w (wx.setCell ⟨Be, k, none⟩ v) m i p a := by
  have c : ∀ b o u, b ≤ w.heap.size + 1 → wx.cell? ⟨b, o, none⟩ = some u → (wx.setCell ⟨Be, k, none⟩ v).cell? ⟨b, o, none⟩ = some u := fun b o u hb hu =>
    (World.cell?_of_block (Below.heap_setCell wx ⟨Be, k, none⟩ v b (by show b ≠ Be; omega))).trans hu
  exact ⟨c _ _ _ (by omega) h.bm, c _ _ _ (by omega) h.bi, c _ _ _ (by omega) h.bp, c _ _ _ (by omega) h.ba, h.b.setCell (p := ⟨Be, k, none⟩) (by show w.heap.size ≤ Be; omega) v⟩

/-- the entry's block, emptied -/
def W5 (w : World) (Be : Nat) : World :=
  ((((w.setCell ⟨Be, 0, none⟩ (.string ⟨#[]⟩)).setCell ⟨Be, 1, none⟩ (.string ⟨#[]⟩)).setCell ⟨Be, 2, none⟩ (.string ⟨#[]⟩)).setCell ⟨Be, 3, none⟩ (.string ⟨#[]⟩)).setCell ⟨Be, 4, none⟩ (.string ⟨#[]⟩)

theorem W5_size (w : World) (Be : Nat) : (W5 w Be).heap.size = w.heap.size := by simp [W5]

theorem W5_cells {w : World} {Be : Nat} {c0 c1 c2 c3 c4 : Value} (h : w.heap[Be]? = some (.cells #[c0, c1, c2, c3, c4] 49 (0, 0))) : ∀ k, k < 5 → (W5 w Be).cell? ⟨Be, k, none⟩ = some (.string emp) := by
  have h1 := heap_setCell_same _ Be 0 _ 49 (.string ⟨#[]⟩) h
  have h2 := heap_setCell_same _ Be 1 _ 49 (.string ⟨#[]⟩) h1
  have h3 := heap_setCell_same _ Be 2 _ 49 (.string ⟨#[]⟩) h2
  have h4 := heap_setCell_same _ Be 3 _ 49 (.string ⟨#[]⟩) h3
  have h5 := heap_setCell_same _ Be 4 _ 49 (.string ⟨#[]⟩) h4
  intro k hk
  unfold W5
  rw [cell_of_row _ Be k _ 49 (0, 0) h5]
  match k, hk with
  | 0, _ => rfl
  | 1, _ => rfl
  | 2, _ => rfl
  | 3, _ => rfl
  | 4, _ => rfl

theorem nv_of {rb : Bool} {m i p a : ByteArray} {n : Int} {b : Bool} (h : nv rb m i p a = (n, b)) : Ending.returned (.tuple #[.int .i64 n, .bool b]) = .returned (.tuple #[.int .i64 (nv rb m i p a).1, .bool (nv rb m i p a).2]) := by
  rw [h]

theorem ef_size (i p : ByteArray) (k : Nat) : (ef i p k).size ≤ i.size := by
  unfold ef
  split
  · exact Nat.zero_le _
  · exact fld_size i k

theorem Box.held {w wx : World} {m i p a : ByteArray} (h : Box w wx m i p a) {Be Bp : Nat} {E P : Nat → ByteArray} (he : ∀ k, k < 5 → wx.cell? ⟨Be, k, none⟩ = some (.string (E k))) (hp : ∀ k, k < 5 → wx.cell? ⟨Bp, k, none⟩ = some (.string (P k))) :
    Held w wx Be Bp m i p a E P := ⟨h.bm, h.bi, h.bp, h.ba, he, hp, h.b⟩

set_option maxHeartbeats 8000000 in
theorem names_c1 (m i p a : ByteArray) (w : World) (h : aws m i = false) (si : i.size ≤ 1000000000) (sp : p.size ≤ 1000000000) (sa : a.size ≤ 1000000000)
    (ho : okP p = false) :
    Calls Try.prog 21 #[.agg #[.string m, .string i], reqV p a] w fun e w' => NV e m i p a ∧ Below w.heap.size w w' := by
  have hmm : mism i p = false := by unfold mism; rw [ho]; rfl
  have hef : Hid (∀ k, ef i p k = fld i k) := fun k => by unfold ef; rw [hmm]; rfl
  have hs4 : (fld p 4).size ≤ 1000000000 := Nat.le_trans (fld_size p 4) sp
  have hs5 : (ef i p 4).size ≤ 1000000000 := Nat.le_trans (ef_size i p 4) si
  clear hmm
  unfold reqV
  go_enter Try.func21, Try.ntmps21
  go_wp2_with fail
  refine (aws_any _ _ _).mono ?_
  rintro e w1 ⟨rfl, hb1⟩
  have X1 : Box w w1 m i p a := (Box.start w m i p a).later hb1
  have x2 := X1.bi
  clear hb1
  rw [h]
  go_wp2_with fail
  clear x2
  refine (Parse_any _ _ (by omega)).mono ?_
  rintro e w2 ⟨rfl, hb2⟩
  have X2 : Box w w2 m i p a := X1.later hb2
  have x2 := X2.bp
  have hz2 : w.heap.size + 1 < w2.heap.size := World.block_lt_of_cell? w2 _ x2
  clear hb2 X1
  unfold arnV
  go_wp2_with fail
  clear x2
  refine (Parse_any _ _ (by omega)).mono ?_
  rintro e w3 ⟨rfl, hb3⟩
  have X3 : Box w w3 m i p a := (X2.al _).later hb3
  have E3 : ∀ k, k < 5 → w3.cell? ⟨w2.heap.size, k, none⟩ = some (.string (fld i k)) := fun k hk => kp hb3 (kn w2 (fld i) k hk)
  have hz3 : w2.heap.size < w3.heap.size := World.block_lt_of_cell? w3 _ (E3 0 (by omega))
  have e0 := E3 0 (by omega)
  have e1 := E3 1 (by omega)
  have e2 := E3 2 (by omega)
  have e3 := E3 3 (by omega)
  have e4 := E3 4 (by omega)
  have HE : Hid (∀ k, k < 5 → w3.cell? ⟨w2.heap.size, k, none⟩ = some (.string (fld i k))) := E3
  have HB : Hid (w3.heap[w2.heap.size]? = some (.cells #[.string (fld i 0), .string (fld i 1), .string (fld i 2), .string (fld i 3), .string (fld i 4)] 49 (0, 0))) := (hb3.block w2.heap.size (by simp)).trans (heap_alloc_new w2 _)
  have hfr : ∀ k, w3.frozen? ⟨w2.heap.size, k, none⟩ = false := fun k => (hb3.frozen (p := ⟨w2.heap.size, k, none⟩) (by simp)).trans (frozen_of_row _ w2.heap.size k _ 49 (heap_alloc_new w2 _))
  clear hb3 X2 E3
  unfold arnV
  go_wp2_with fail
  clear e0 e1 e2 e3 e4 hfr
  have HH : Held w (w3.alloc (.cells #[.string (fld p 0), .string (fld p 1), .string (fld p 2), .string (fld p 3), .string (fld p 4)] 49)) w2.heap.size w3.heap.size m i p a (ef i p) (fld p) := (X3.al _).held (fun k hk => by rw [hef.out k]; exact ka (HE.out k hk)) (kn w3 (fld p))
  clear X3
  obtain ⟨W4, hW4⟩ : ∃ W4, W4 = w3.alloc (.cells #[.string (fld p 0), .string (fld p 1), .string (fld p 2), .string (fld p 3), .string (fld p 4)] 49) := ⟨_, rfl⟩
  rw [← hW4] at HH ⊢
  clear hW4
  refine (SessionRole_any _ _ _ _ _ _ hs4).mono ?_
  rintro e w5 ⟨⟨r, b, rfl, _⟩, hb5⟩
  have H5 := HH.later hb5
  cases b
  · have x1 := H5.ba
    have x2 := H5.bi
    have y0 := H5.e 0 (by omega)
    have y1 := H5.e 1 (by omega)
    have y2 := H5.e 2 (by omega)
    have y3 := H5.e 3 (by omega)
    have y4 := H5.e 4 (by omega)
    go_wp2_with (first | (go_at_call 27; refine (IsRoot_any _ _ _ _ _ _).mono ?_; rintro e w7 ⟨rfl, hb7⟩; have H7 := H5.later hb7; have z1 := H7.bi; have z2 := H7.e 3 (by omega)) | (go_at_call 28; refine (IsAccount_any _ _ (by omega)).mono ?_; rintro e w8 ⟨rfl, rfl⟩))
    all_goals (go_ret2; refine ⟨⟨false, nv_of ?_, fun h => by cases h⟩, by first | exact H7.b | exact H5.b⟩; go_light; simp [nv, *])
  · have g0 := H5.e 0 (by omega)
    have g1 := H5.e 1 (by omega)
    have g2 := H5.e 2 (by omega)
    have g3 := H5.e 3 (by omega)
    have g4 := H5.e 4 (by omega)
    go_wp2_with fail
    clear g0 g1 g2 g3 g4
    refine (Role_any _ _ _ _ _ _ hs5).mono ?_
    rintro e w6 ⟨⟨r', b', rfl, hrole⟩, hb6⟩
    have H6 := H5.later hb6
    have HRo : Hid (b' = true → hp (ef i p 4) ⟨#[114, 111, 108, 101, 47]⟩ = true) := hrole
    clear hrole hb6 hb5 H5 HH
    cases b'
    · have x1 := H6.ba
      have x2 := H6.bi
      have y0 := H6.e 0 (by omega)
      have y1 := H6.e 1 (by omega)
      have y2 := H6.e 2 (by omega)
      have y3 := H6.e 3 (by omega)
      have y4 := H6.e 4 (by omega)
      go_wp2_with (first | (go_at_call 27; refine (IsRoot_any _ _ _ _ _ _).mono ?_; rintro e w7 ⟨rfl, hb7⟩; have H7 := H6.later hb7; have z1 := H7.bi; have z2 := H7.e 3 (by omega)) | (go_at_call 28; refine (IsAccount_any _ _ (by omega)).mono ?_; rintro e w8 ⟨rfl, rfl⟩))
      all_goals (go_ret2; refine ⟨⟨false, nv_of ?_, fun h => by cases h⟩, by first | exact H7.b | exact H6.b⟩; go_light; simp [nv, *])
    · by_cases hrr : r'.toList = r.toList
      · have q1 := H6.e 3 (by omega)
        have q2 := H6.p 3 (by omega)
        by_cases hac : (ef i p 3).toList = (fld p 3).toList
        · go_wp2_with fail
          go_ret2
          refine ⟨⟨true, nv_of ?_, fun _ => HRo.out trivial⟩, H6.b⟩
          go_light
          simp [nv, *]
        · have hac' : ((ef i p 3).toList == (fld p 3).toList) = false := by simpa using hac
          clear hac
          have x1 := H6.ba
          have x2 := H6.bi
          have y0 := H6.e 0 (by omega)
          have y1 := H6.e 1 (by omega)
          have y2 := H6.e 2 (by omega)
          have y3 := H6.e 3 (by omega)
          have y4 := H6.e 4 (by omega)
          go_wp2_with (first | (go_at_call 27; refine (IsRoot_any _ _ _ _ _ _).mono ?_; rintro e w7 ⟨rfl, hb7⟩; have H7 := H6.later hb7; have z1 := H7.bi; have z2 := H7.e 3 (by omega)) | (go_at_call 28; refine (IsAccount_any _ _ (by omega)).mono ?_; rintro e w8 ⟨rfl, rfl⟩))
          all_goals (go_ret2; refine ⟨⟨false, nv_of ?_, fun h => by cases h⟩, by first | exact H7.b | exact H6.b⟩; go_light; simp [nv, *])
      · have x1 := H6.ba
        have x2 := H6.bi
        have y0 := H6.e 0 (by omega)
        have y1 := H6.e 1 (by omega)
        have y2 := H6.e 2 (by omega)
        have y3 := H6.e 3 (by omega)
        have y4 := H6.e 4 (by omega)
        go_wp2_with (first | (go_at_call 27; refine (IsRoot_any _ _ _ _ _ _).mono ?_; rintro e w7 ⟨rfl, hb7⟩; have H7 := H6.later hb7; have z1 := H7.bi; have z2 := H7.e 3 (by omega)) | (go_at_call 28; refine (IsAccount_any _ _ (by omega)).mono ?_; rintro e w8 ⟨rfl, rfl⟩))
        all_goals (go_ret2; refine ⟨⟨false, nv_of ?_, fun h => by cases h⟩, by first | exact H7.b | exact H6.b⟩; go_light; simp [nv, *])

set_option maxHeartbeats 8000000 in
theorem names_c2 (m i p a : ByteArray) (w : World) (h : aws m i = false) (si : i.size ≤ 1000000000) (sp : p.size ≤ 1000000000) (sa : a.size ≤ 1000000000)
    (ho : okP p = true) (hq : ((fld i 0).toList == (fld p 0).toList) = true) :
    Calls Try.prog 21 #[.agg #[.string m, .string i], reqV p a] w fun e w' => NV e m i p a ∧ Below w.heap.size w w' := by
  have hmm : mism i p = false := by unfold mism; rw [ho, hq]; rfl
  have hef : Hid (∀ k, ef i p k = fld i k) := fun k => by unfold ef; rw [hmm]; rfl
  have hs4 : (fld p 4).size ≤ 1000000000 := Nat.le_trans (fld_size p 4) sp
  have hs5 : (ef i p 4).size ≤ 1000000000 := Nat.le_trans (ef_size i p 4) si
  clear hmm
  unfold reqV
  go_enter Try.func21, Try.ntmps21
  go_wp2_with fail
  refine (aws_any _ _ _).mono ?_
  rintro e w1 ⟨rfl, hb1⟩
  have X1 : Box w w1 m i p a := (Box.start w m i p a).later hb1
  have x2 := X1.bi
  clear hb1
  rw [h]
  go_wp2_with fail
  clear x2
  refine (Parse_any _ _ (by omega)).mono ?_
  rintro e w2 ⟨rfl, hb2⟩
  have X2 : Box w w2 m i p a := X1.later hb2
  have x2 := X2.bp
  have hz2 : w.heap.size + 1 < w2.heap.size := World.block_lt_of_cell? w2 _ x2
  clear hb2 X1
  unfold arnV
  go_wp2_with fail
  clear x2
  refine (Parse_any _ _ (by omega)).mono ?_
  rintro e w3 ⟨rfl, hb3⟩
  have X3 : Box w w3 m i p a := (X2.al _).later hb3
  have E3 : ∀ k, k < 5 → w3.cell? ⟨w2.heap.size, k, none⟩ = some (.string (fld i k)) := fun k hk => kp hb3 (kn w2 (fld i) k hk)
  have hz3 : w2.heap.size < w3.heap.size := World.block_lt_of_cell? w3 _ (E3 0 (by omega))
  have e0 := E3 0 (by omega)
  have e1 := E3 1 (by omega)
  have e2 := E3 2 (by omega)
  have e3 := E3 3 (by omega)
  have e4 := E3 4 (by omega)
  have HE : Hid (∀ k, k < 5 → w3.cell? ⟨w2.heap.size, k, none⟩ = some (.string (fld i k))) := E3
  have HB : Hid (w3.heap[w2.heap.size]? = some (.cells #[.string (fld i 0), .string (fld i 1), .string (fld i 2), .string (fld i 3), .string (fld i 4)] 49 (0, 0))) := (hb3.block w2.heap.size (by simp)).trans (heap_alloc_new w2 _)
  have hfr : ∀ k, w3.frozen? ⟨w2.heap.size, k, none⟩ = false := fun k => (hb3.frozen (p := ⟨w2.heap.size, k, none⟩) (by simp)).trans (frozen_of_row _ w2.heap.size k _ 49 (heap_alloc_new w2 _))
  clear hb3 X2 E3
  unfold arnV
  go_wp2_with fail
  clear e0 e1 e2 e3 e4 hfr
  have HH : Held w (w3.alloc (.cells #[.string (fld p 0), .string (fld p 1), .string (fld p 2), .string (fld p 3), .string (fld p 4)] 49)) w2.heap.size w3.heap.size m i p a (ef i p) (fld p) := (X3.al _).held (fun k hk => by rw [hef.out k]; exact ka (HE.out k hk)) (kn w3 (fld p))
  clear X3
  obtain ⟨W4, hW4⟩ : ∃ W4, W4 = w3.alloc (.cells #[.string (fld p 0), .string (fld p 1), .string (fld p 2), .string (fld p 3), .string (fld p 4)] 49) := ⟨_, rfl⟩
  rw [← hW4] at HH ⊢
  clear hW4
  refine (SessionRole_any _ _ _ _ _ _ hs4).mono ?_
  rintro e w5 ⟨⟨r, b, rfl, _⟩, hb5⟩
  have H5 := HH.later hb5
  cases b
  · have x1 := H5.ba
    have x2 := H5.bi
    have y0 := H5.e 0 (by omega)
    have y1 := H5.e 1 (by omega)
    have y2 := H5.e 2 (by omega)
    have y3 := H5.e 3 (by omega)
    have y4 := H5.e 4 (by omega)
    go_wp2_with (first | (go_at_call 27; refine (IsRoot_any _ _ _ _ _ _).mono ?_; rintro e w7 ⟨rfl, hb7⟩; have H7 := H5.later hb7; have z1 := H7.bi; have z2 := H7.e 3 (by omega)) | (go_at_call 28; refine (IsAccount_any _ _ (by omega)).mono ?_; rintro e w8 ⟨rfl, rfl⟩))
    all_goals (go_ret2; refine ⟨⟨false, nv_of ?_, fun h => by cases h⟩, by first | exact H7.b | exact H5.b⟩; go_light; simp [nv, *])
  · have g0 := H5.e 0 (by omega)
    have g1 := H5.e 1 (by omega)
    have g2 := H5.e 2 (by omega)
    have g3 := H5.e 3 (by omega)
    have g4 := H5.e 4 (by omega)
    go_wp2_with fail
    clear g0 g1 g2 g3 g4
    refine (Role_any _ _ _ _ _ _ hs5).mono ?_
    rintro e w6 ⟨⟨r', b', rfl, hrole⟩, hb6⟩
    have H6 := H5.later hb6
    have HRo : Hid (b' = true → hp (ef i p 4) ⟨#[114, 111, 108, 101, 47]⟩ = true) := hrole
    clear hrole hb6 hb5 H5 HH
    cases b'
    · have x1 := H6.ba
      have x2 := H6.bi
      have y0 := H6.e 0 (by omega)
      have y1 := H6.e 1 (by omega)
      have y2 := H6.e 2 (by omega)
      have y3 := H6.e 3 (by omega)
      have y4 := H6.e 4 (by omega)
      go_wp2_with (first | (go_at_call 27; refine (IsRoot_any _ _ _ _ _ _).mono ?_; rintro e w7 ⟨rfl, hb7⟩; have H7 := H6.later hb7; have z1 := H7.bi; have z2 := H7.e 3 (by omega)) | (go_at_call 28; refine (IsAccount_any _ _ (by omega)).mono ?_; rintro e w8 ⟨rfl, rfl⟩))
      all_goals (go_ret2; refine ⟨⟨false, nv_of ?_, fun h => by cases h⟩, by first | exact H7.b | exact H6.b⟩; go_light; simp [nv, *])
    · by_cases hrr : r'.toList = r.toList
      · have q1 := H6.e 3 (by omega)
        have q2 := H6.p 3 (by omega)
        by_cases hac : (ef i p 3).toList = (fld p 3).toList
        · go_wp2_with fail
          go_ret2
          refine ⟨⟨true, nv_of ?_, fun _ => HRo.out trivial⟩, H6.b⟩
          go_light
          simp [nv, *]
        · have hac' : ((ef i p 3).toList == (fld p 3).toList) = false := by simpa using hac
          clear hac
          have x1 := H6.ba
          have x2 := H6.bi
          have y0 := H6.e 0 (by omega)
          have y1 := H6.e 1 (by omega)
          have y2 := H6.e 2 (by omega)
          have y3 := H6.e 3 (by omega)
          have y4 := H6.e 4 (by omega)
          go_wp2_with (first | (go_at_call 27; refine (IsRoot_any _ _ _ _ _ _).mono ?_; rintro e w7 ⟨rfl, hb7⟩; have H7 := H6.later hb7; have z1 := H7.bi; have z2 := H7.e 3 (by omega)) | (go_at_call 28; refine (IsAccount_any _ _ (by omega)).mono ?_; rintro e w8 ⟨rfl, rfl⟩))
          all_goals (go_ret2; refine ⟨⟨false, nv_of ?_, fun h => by cases h⟩, by first | exact H7.b | exact H6.b⟩; go_light; simp [nv, *])
      · have x1 := H6.ba
        have x2 := H6.bi
        have y0 := H6.e 0 (by omega)
        have y1 := H6.e 1 (by omega)
        have y2 := H6.e 2 (by omega)
        have y3 := H6.e 3 (by omega)
        have y4 := H6.e 4 (by omega)
        go_wp2_with (first | (go_at_call 27; refine (IsRoot_any _ _ _ _ _ _).mono ?_; rintro e w7 ⟨rfl, hb7⟩; have H7 := H6.later hb7; have z1 := H7.bi; have z2 := H7.e 3 (by omega)) | (go_at_call 28; refine (IsAccount_any _ _ (by omega)).mono ?_; rintro e w8 ⟨rfl, rfl⟩))
        all_goals (go_ret2; refine ⟨⟨false, nv_of ?_, fun h => by cases h⟩, by first | exact H7.b | exact H6.b⟩; go_light; simp [nv, *])

set_option maxHeartbeats 8000000 in
theorem names_c3 (m i p a : ByteArray) (w : World) (h : aws m i = false) (si : i.size ≤ 1000000000) (sp : p.size ≤ 1000000000) (sa : a.size ≤ 1000000000)
    (ho : okP p = true) (hq : ((fld i 0).toList == (fld p 0).toList) = false) :
    Calls Try.prog 21 #[.agg #[.string m, .string i], reqV p a] w fun e w' => NV e m i p a ∧ Below w.heap.size w w' := by
  have hmm : mism i p = true := by unfold mism; rw [ho, hq]; rfl
  have hef : Hid (∀ k, ef i p k = emp) := fun k => by unfold ef; rw [hmm]; rfl
  have hs4 : (fld p 4).size ≤ 1000000000 := Nat.le_trans (fld_size p 4) sp
  have hs5 : (ef i p 4).size ≤ 1000000000 := Nat.le_trans (ef_size i p 4) si
  clear hmm
  unfold reqV
  go_enter Try.func21, Try.ntmps21
  go_wp2_with fail
  refine (aws_any _ _ _).mono ?_
  rintro e w1 ⟨rfl, hb1⟩
  have X1 : Box w w1 m i p a := (Box.start w m i p a).later hb1
  have x2 := X1.bi
  clear hb1
  rw [h]
  go_wp2_with fail
  clear x2
  refine (Parse_any _ _ (by omega)).mono ?_
  rintro e w2 ⟨rfl, hb2⟩
  have X2 : Box w w2 m i p a := X1.later hb2
  have x2 := X2.bp
  have hz2 : w.heap.size + 1 < w2.heap.size := World.block_lt_of_cell? w2 _ x2
  clear hb2 X1
  unfold arnV
  go_wp2_with fail
  clear x2
  refine (Parse_any _ _ (by omega)).mono ?_
  rintro e w3 ⟨rfl, hb3⟩
  have X3 : Box w w3 m i p a := (X2.al _).later hb3
  have E3 : ∀ k, k < 5 → w3.cell? ⟨w2.heap.size, k, none⟩ = some (.string (fld i k)) := fun k hk => kp hb3 (kn w2 (fld i) k hk)
  have hz3 : w2.heap.size < w3.heap.size := World.block_lt_of_cell? w3 _ (E3 0 (by omega))
  have e0 := E3 0 (by omega)
  have e1 := E3 1 (by omega)
  have e2 := E3 2 (by omega)
  have e3 := E3 3 (by omega)
  have e4 := E3 4 (by omega)
  have HE : Hid (∀ k, k < 5 → w3.cell? ⟨w2.heap.size, k, none⟩ = some (.string (fld i k))) := E3
  have HB : Hid (w3.heap[w2.heap.size]? = some (.cells #[.string (fld i 0), .string (fld i 1), .string (fld i 2), .string (fld i 3), .string (fld i 4)] 49 (0, 0))) := (hb3.block w2.heap.size (by simp)).trans (heap_alloc_new w2 _)
  have hfr : ∀ k, w3.frozen? ⟨w2.heap.size, k, none⟩ = false := fun k => (hb3.frozen (p := ⟨w2.heap.size, k, none⟩) (by simp)).trans (frozen_of_row _ w2.heap.size k _ 49 (heap_alloc_new w2 _))
  clear hb3 X2 E3
  unfold arnV
  go_wp2_with fail
  clear e0 e1 e2 e3 e4 hfr
  have HH : Held w ((W5 w3 w2.heap.size).alloc (.cells #[.string (fld p 0), .string (fld p 1), .string (fld p 2), .string (fld p 3), .string (fld p 4)] 49)) w2.heap.size w3.heap.size m i p a (ef i p) (fld p) := ((((((X3.set hz2).set hz2).set hz2).set hz2).set hz2).al _).held (fun k hk => by rw [hef.out k]; exact ka (W5_cells HB.out k hk)) (fun k hk => by have := kn (W5 w3 w2.heap.size) (fld p) k hk; rw [W5_size] at this; exact this)
  unfold W5 at HH
  clear X3
  obtain ⟨W4, hW4⟩ : ∃ W4, W4 = ((((((w3.setCell ⟨w2.heap.size, 0, none⟩ (.string ⟨#[]⟩)).setCell ⟨w2.heap.size, 1, none⟩ (.string ⟨#[]⟩)).setCell ⟨w2.heap.size, 2, none⟩ (.string ⟨#[]⟩)).setCell ⟨w2.heap.size, 3, none⟩ (.string ⟨#[]⟩)).setCell ⟨w2.heap.size, 4, none⟩ (.string ⟨#[]⟩)).alloc (.cells #[.string (fld p 0), .string (fld p 1), .string (fld p 2), .string (fld p 3), .string (fld p 4)] 49)) := ⟨_, rfl⟩
  rw [← hW4] at HH ⊢
  clear hW4
  refine (SessionRole_any _ _ _ _ _ _ hs4).mono ?_
  rintro e w5 ⟨⟨r, b, rfl, _⟩, hb5⟩
  have H5 := HH.later hb5
  cases b
  · have x1 := H5.ba
    have x2 := H5.bi
    have y0 := H5.e 0 (by omega)
    have y1 := H5.e 1 (by omega)
    have y2 := H5.e 2 (by omega)
    have y3 := H5.e 3 (by omega)
    have y4 := H5.e 4 (by omega)
    go_wp2_with (first | (go_at_call 27; refine (IsRoot_any _ _ _ _ _ _).mono ?_; rintro e w7 ⟨rfl, hb7⟩; have H7 := H5.later hb7; have z1 := H7.bi; have z2 := H7.e 3 (by omega)) | (go_at_call 28; refine (IsAccount_any _ _ (by omega)).mono ?_; rintro e w8 ⟨rfl, rfl⟩))
    all_goals (go_ret2; refine ⟨⟨false, nv_of ?_, fun h => by cases h⟩, by first | exact H7.b | exact H5.b⟩; go_light; simp [nv, *])
  · have g0 := H5.e 0 (by omega)
    have g1 := H5.e 1 (by omega)
    have g2 := H5.e 2 (by omega)
    have g3 := H5.e 3 (by omega)
    have g4 := H5.e 4 (by omega)
    go_wp2_with fail
    clear g0 g1 g2 g3 g4
    refine (Role_any _ _ _ _ _ _ hs5).mono ?_
    rintro e w6 ⟨⟨r', b', rfl, hrole⟩, hb6⟩
    have H6 := H5.later hb6
    have HRo : Hid (b' = true → hp (ef i p 4) ⟨#[114, 111, 108, 101, 47]⟩ = true) := hrole
    clear hrole hb6 hb5 H5 HH
    cases b'
    · have x1 := H6.ba
      have x2 := H6.bi
      have y0 := H6.e 0 (by omega)
      have y1 := H6.e 1 (by omega)
      have y2 := H6.e 2 (by omega)
      have y3 := H6.e 3 (by omega)
      have y4 := H6.e 4 (by omega)
      go_wp2_with (first | (go_at_call 27; refine (IsRoot_any _ _ _ _ _ _).mono ?_; rintro e w7 ⟨rfl, hb7⟩; have H7 := H6.later hb7; have z1 := H7.bi; have z2 := H7.e 3 (by omega)) | (go_at_call 28; refine (IsAccount_any _ _ (by omega)).mono ?_; rintro e w8 ⟨rfl, rfl⟩))
      all_goals (go_ret2; refine ⟨⟨false, nv_of ?_, fun h => by cases h⟩, by first | exact H7.b | exact H6.b⟩; go_light; simp [nv, *])
    · by_cases hrr : r'.toList = r.toList
      · have q1 := H6.e 3 (by omega)
        have q2 := H6.p 3 (by omega)
        by_cases hac : (ef i p 3).toList = (fld p 3).toList
        · go_wp2_with fail
          go_ret2
          refine ⟨⟨true, nv_of ?_, fun _ => HRo.out trivial⟩, H6.b⟩
          go_light
          simp [nv, *]
        · have hac' : ((ef i p 3).toList == (fld p 3).toList) = false := by simpa using hac
          clear hac
          have x1 := H6.ba
          have x2 := H6.bi
          have y0 := H6.e 0 (by omega)
          have y1 := H6.e 1 (by omega)
          have y2 := H6.e 2 (by omega)
          have y3 := H6.e 3 (by omega)
          have y4 := H6.e 4 (by omega)
          go_wp2_with (first | (go_at_call 27; refine (IsRoot_any _ _ _ _ _ _).mono ?_; rintro e w7 ⟨rfl, hb7⟩; have H7 := H6.later hb7; have z1 := H7.bi; have z2 := H7.e 3 (by omega)) | (go_at_call 28; refine (IsAccount_any _ _ (by omega)).mono ?_; rintro e w8 ⟨rfl, rfl⟩))
          all_goals (go_ret2; refine ⟨⟨false, nv_of ?_, fun h => by cases h⟩, by first | exact H7.b | exact H6.b⟩; go_light; simp [nv, *])
      · have x1 := H6.ba
        have x2 := H6.bi
        have y0 := H6.e 0 (by omega)
        have y1 := H6.e 1 (by omega)
        have y2 := H6.e 2 (by omega)
        have y3 := H6.e 3 (by omega)
        have y4 := H6.e 4 (by omega)
        go_wp2_with (first | (go_at_call 27; refine (IsRoot_any _ _ _ _ _ _).mono ?_; rintro e w7 ⟨rfl, hb7⟩; have H7 := H6.later hb7; have z1 := H7.bi; have z2 := H7.e 3 (by omega)) | (go_at_call 28; refine (IsAccount_any _ _ (by omega)).mono ?_; rintro e w8 ⟨rfl, rfl⟩))
        all_goals (go_ret2; refine ⟨⟨false, nv_of ?_, fun h => by cases h⟩, by first | exact H7.b | exact H6.b⟩; go_light; simp [nv, *])

theorem names_any (m i p a : ByteArray) (w : World) (si : i.size ≤ 1000000000) (sp : p.size ≤ 1000000000) (sa : a.size ≤ 1000000000) :
    Calls Try.prog 21 #[.agg #[.string m, .string i], reqV p a] w fun e w' => NV e m i p a ∧ Below w.heap.size w w' := by
  cases h : aws m i with
  | true => exact names_aws m i p a w h
  | false =>
    cases ho : okP p with
    | false => exact names_c1 m i p a w h si sp sa ho
    | true =>
      cases hq : ((fld i 0).toList == (fld p 0).toList) with
      | true => exact names_c2 m i p a w h si sp sa ho hq
      | false => exact names_c3 m i p a w h si sp sa ho hq

set_option maxHeartbeats 1000000 in
theorem ZZ_any (m i p a : ByteArray) (w : World) (si : i.size ≤ 1000000000) (sp : p.size ≤ 1000000000) (sa : a.size ≤ 1000000000) :
    Calls Try.prog 10 #[.string m, .string i, .string p, .string a] w fun e w' => NV e m i p a ∧ Below w.heap.size w w' := by
  go_enter Try.func10, Try.ntmps10
  go_wp2_with fail
  refine (names_any m i p a _ si sp sa).mono ?_
  rintro e w1 ⟨⟨rb, rfl, hr⟩, hb⟩
  have HR : Hid (rb = true → hp (ef i p 4) ⟨#[114, 111, 108, 101, 47]⟩ = true) := hr
  clear hr
  go_wp2
  go_ret2
  exact ⟨⟨rb, rfl, HR.out⟩, hb⟩

end Go.Proofs.Qxb6600129a.Arn
