/- The plain functions of the reference on constants: kinds, bits. -/
import Derived.Test.YtdapnoocmpbijaaGreatDoorY01
import Derived.Test.YtdapnoocmpbijaaGreatDoorY03
import Derived.Test.YtdapnoocmpbijaaGreatDoorY16
namespace Go.Proofs.YtdapnoocmpbijaaGreatDoor
open Go.RowKit

theorem isPath_any (k : Int) (w : World) : Calls Tryz.prog 36 #[.int .i64 k] w fun e w' => e = .returned (.bool (decide (1 ≤ k) && decide (k ≤ 6))) ∧ w = w' := by
  by_cases h : 1 ≤ k
  · go_enter Tryz.func36, Tryz.ntmps36
    go_wp2
    go_ret
    exact ⟨by simp [h], rfl⟩
  · go_enter Tryz.func36, Tryz.ntmps36
    go_wp2
    go_ret
    exact ⟨by simp; omega, rfl⟩

/-- Of a constant: whether it is one of its type. -/
def sgBits (c : Nat) : Nat := if c = 97 then 8 else if c = 115 then 16 else if c = 108 then 32 else 64
def unBits (c : Nat) : Nat := if c = 104 then 8 else if c = 116 then 16 else if c = 109 then 32 else 64

set_option maxHeartbeats 1000000 in
theorem bits_sg (c : Nat) (hc : isSg c) (w : World) : Calls Tryz.prog 77 #[.int .u8 c] w fun e w' => e = .returned (.tuple #[.int .u64 (sgBits c), .bool true]) ∧ w = w' := by
  unfold isSg at hc
  rcases hc with rfl | rfl | rfl | rfl | rfl | rfl
  all_goals
    go_enter Tryz.func77, Tryz.ntmps77
    go_wp2
    go_ret2
    exact ⟨rfl, rfl⟩

set_option maxHeartbeats 1000000 in
theorem bits_un (c : Nat) (hc : isUn c) (w : World) : Calls Tryz.prog 77 #[.int .u8 c] w fun e w' => e = .returned (.tuple #[.int .u64 (unBits c), .bool false]) ∧ w = w' := by
  unfold isUn at hc
  rcases hc with rfl | rfl | rfl | rfl | rfl | rfl
  all_goals
    go_enter Tryz.func77, Tryz.ntmps77
    go_wp2
    go_ret2
    exact ⟨rfl, rfl⟩

set_option maxHeartbeats 1000000 in
theorem bits_no (c : Nat) (hc : ¬ isSg c) (hd : ¬ isUn c) (w : World) : Calls Tryz.prog 77 #[.int .u8 c] w fun e w' => e = .returned (.tuple #[.int .u64 0, .bool false]) ∧ w = w' := by
  unfold isSg at hc
  unfold isUn at hd
  have e1 : ((c : Int) == 97) = false := by rw [beq_eq_false_iff_ne]; omega
  have e2 : ((c : Int) == 115) = false := by rw [beq_eq_false_iff_ne]; omega
  have e3 : ((c : Int) == 108) = false := by rw [beq_eq_false_iff_ne]; omega
  have e4 : ((c : Int) == 120) = false := by rw [beq_eq_false_iff_ne]; omega
  have e5 : ((c : Int) == 110) = false := by rw [beq_eq_false_iff_ne]; omega
  have e6 : ((c : Int) == 105) = false := by rw [beq_eq_false_iff_ne]; omega
  have e7 : ((c : Int) == 104) = false := by rw [beq_eq_false_iff_ne]; omega
  have e8 : ((c : Int) == 116) = false := by rw [beq_eq_false_iff_ne]; omega
  have e9 : ((c : Int) == 109) = false := by rw [beq_eq_false_iff_ne]; omega
  have e10 : ((c : Int) == 121) = false := by rw [beq_eq_false_iff_ne]; omega
  have e11 : ((c : Int) == 111) = false := by rw [beq_eq_false_iff_ne]; omega
  have e12 : ((c : Int) == 106) = false := by rw [beq_eq_false_iff_ne]; omega
  clear hc hd
  go_enter Tryz.func77, Tryz.ntmps77
  go_wp2
  go_ret2
  exact ⟨rfl, rfl⟩

/-- A tree's own cells, as a value. -/
abbrev rv (kd : Int) (c : UInt8) (nm : List UInt8) (n : Nat) (fl : Bool) (ks : Value) : Array Value :=
  #[.int .i64 kd, .int .u8 c.toNat, .string (bs nm), .int .u64 n, .bool fl, ks]

/-- It answers a bool of which Q holds, and the world is R. -/
def BoolP (Q : Bool → Prop) (R : World → Prop) (e : Ending) (w' : World) : Prop := ∃ bl : Bool, e = .returned (.bool bl) ∧ Q bl ∧ R w'

set_option maxHeartbeats 4000000 in
set_option maxRecDepth 100000 in
theorem isNumber_any (Q : Bool → Prop) (kd : Int) (c : UInt8) (nm : List UInt8) (n : Nat) (fl : Bool) (ks : Value) (hn : n < 18446744073709551616) (hQ : ∀ bl, (bl = true → ∃ K, KindOk K c n fl) → Q bl) (w : World) :
    Calls Tryz.prog 60 #[.agg (rv kd c nm n fl ks)] w (BoolP Q fun w' => w.alloc (.cells (rv kd c nm n fl ks) 25) = w') := by
  by_cases h98 : c.toNat = 98
  · have hk : ∀ bl : Bool, (bl = true → n ≤ 1 ∧ fl = false) → Q bl := fun bl h => hQ bl fun e => ⟨3, .inr (.inr (.inl ⟨rfl, h98, (h e).2, (h e).1⟩))⟩
    have HK := Lib.hid hk
    clear hk hQ
    by_cases h1 : n ≤ 1
    · cases fl
      all_goals
        go_enter Tryz.func60, Tryz.ntmps60
        go_wp2
        go_ret
        refine ⟨_, rfl, HK.out _ ?_, rfl⟩
        simp <;> omega
    · have hd : decide ((n : Int) ≤ 1) = false := by simp; omega
      go_enter Tryz.func60, Tryz.ntmps60
      go_wp2
      go_ret
      refine ⟨_, rfl, HK.out _ ?_, rfl⟩
      simp
  · have h98' : ((c.toNat : Int) == 98) = false := by rw [beq_eq_false_iff_ne]; omega
    by_cases h99 : c.toNat = 99
    · have hk : ∀ bl : Bool, (bl = true → 32 ≤ n ∧ n ≤ 126 ∧ n ≠ 39 ∧ n ≠ 92 ∧ fl = false) → Q bl := fun bl h => hQ bl fun e => ⟨4, .inr (.inr (.inr ⟨rfl, h99, (h e).2.2.2.2, (h e).1, (h e).2.1, (h e).2.2.1, (h e).2.2.2.1⟩))⟩
      have HK := Lib.hid hk
      clear hk hQ h98
      by_cases h1 : 32 ≤ n
      · by_cases h2 : n ≤ 126
        · by_cases h3 : n = 39
          · subst h3
            go_enter Tryz.func60, Tryz.ntmps60
            go_wp2
            go_ret
            refine ⟨_, rfl, HK.out _ ?_, rfl⟩
            simp
          · by_cases h4 : n = 34
            · subst h4
              go_enter Tryz.func60, Tryz.ntmps60
              go_wp2
              go_ret
              refine ⟨_, rfl, HK.out _ ?_, rfl⟩
              simp
            · by_cases h5 : n = 92
              · subst h5
                go_enter Tryz.func60, Tryz.ntmps60
                go_wp2
                go_ret
                refine ⟨_, rfl, HK.out _ ?_, rfl⟩
                simp
              · have e3 : ((n : Int) != 39) = true := by rw [bne_iff_ne]; omega
                have e4 : ((n : Int) != 34) = true := by rw [bne_iff_ne]; omega
                have e5 : ((n : Int) != 92) = true := by rw [bne_iff_ne]; omega
                cases fl
                all_goals
                  go_enter Tryz.func60, Tryz.ntmps60
                  go_wp2
                  go_ret
                  refine ⟨_, rfl, HK.out _ ?_, rfl⟩
                  simp <;> omega
        · have hd : decide ((n : Int) ≤ 126) = false := by simp; omega
          go_enter Tryz.func60, Tryz.ntmps60
          go_wp2
          go_ret
          refine ⟨_, rfl, HK.out _ ?_, rfl⟩
          simp
      · have hd : decide ((32 : Int) ≤ n) = false := by simp; omega
        go_enter Tryz.func60, Tryz.ntmps60
        go_wp2
        go_ret
        refine ⟨_, rfl, HK.out _ ?_, rfl⟩
        simp
    · have h99' : ((c.toNat : Int) == 99) = false := by rw [beq_eq_false_iff_ne]; omega
      by_cases hsg : isSg c.toNat
      · have hk : ∀ bl : Bool, Q bl := fun bl => hQ bl fun _ => ⟨1, .inl ⟨rfl, hsg⟩⟩
        have HK := Lib.hid hk
        have HS := Lib.hid hsg
        clear hk hQ h98 h99 hsg
        cases fl
        all_goals
          go_enter Tryz.func60, Tryz.ntmps60
          go_wp2_with fail
          refine (bits_sg c.toNat HS.out _).mono ?_
          rintro e w1 ⟨rfl, rfl⟩
          go_wp2_with fail
          all_goals go_ret
          all_goals exact ⟨_, rfl, HK.out _, rfl⟩
      · by_cases hun : isUn c.toNat
        · have hk : ∀ bl : Bool, (bl = true → fl = false) → Q bl := fun bl h => hQ bl fun e => ⟨2, .inr (.inl ⟨rfl, hun, h e⟩)⟩
          have HK := Lib.hid hk
          have HS := Lib.hid hun
          clear hk hQ h98 h99 hsg hun
          cases fl
          all_goals
            go_enter Tryz.func60, Tryz.ntmps60
            go_wp2_with fail
            refine (bits_un c.toNat HS.out _).mono ?_
            rintro e w1 ⟨rfl, rfl⟩
            go_wp2_with fail
            all_goals go_ret
            all_goals exact ⟨_, rfl, HK.out _ (by simp), rfl⟩
        · have hk : ∀ bl : Bool, bl = false → Q bl := fun bl h => hQ bl fun e => absurd e (by rw [h]; decide)
          have HK := Lib.hid hk
          have HS := Lib.hid hsg
          have HU := Lib.hid hun
          clear hk hQ h98 h99 hsg hun
          go_enter Tryz.func60, Tryz.ntmps60
          go_wp2_with fail
          refine (bits_no c.toNat HS.out HU.out _).mono ?_
          rintro e w1 ⟨rfl, rfl⟩
          go_wp2_with fail
          all_goals go_ret
          all_goals exact ⟨_, rfl, HK.out _ rfl, rfl⟩
end Go.Proofs.YtdapnoocmpbijaaGreatDoor

/- The memory of the reference's writer. -/
namespace Go.Proofs.YtdapnoocmpbijaaGreatDoor
open Go.RowKit

/-- Blocks of the kinds M alone are written, from B on. -/
structure KeptM (M : List TypeId) (B : Nat) (w w' : World) : Prop where
  os : w'.os = w.os
  tape : w'.tape = w.tape
  output : w'.output = w.output
  size : w.heap.size ≤ w'.heap.size
  block : ∀ k, k < w.heap.size → (k < B ∨ ∀ t ∈ M, kindOf w.heap[k]? ≠ some t) → w'.heap[k]? = w.heap[k]?

section
variable {M : List TypeId} {B : Nat}
theorem KeptM.refl (w : World) : KeptM M B w w := ⟨rfl, rfl, rfl, Nat.le_refl _, fun _ _ _ => rfl⟩
theorem KeptM.trans {a b c : World} (h : KeptM M B a b) (k : KeptM M B b c) : KeptM M B a c :=
  ⟨k.os.trans h.os, k.tape.trans h.tape, k.output.trans h.output, Nat.le_trans h.size k.size,
   fun i hi hc => (k.block i (Nat.lt_of_lt_of_le hi h.size) (by rw [h.block i hi hc]; exact hc)).trans (h.block i hi hc)⟩
theorem KeptM.drewN {a w : World} (h : KeptM M B a w) (n : Nat) : KeptM M B a (w.drewN n) := ⟨h.os, h.tape, h.output, h.size, h.block⟩
theorem KeptM.alloc {a w : World} (h : KeptM M B a w) (o : Obj) : KeptM M B a (w.alloc o) :=
  h.trans ⟨rfl, rfl, rfl, by simp, fun k hk _ => Below.heap_alloc _ _ _ hk⟩
theorem KeptM.setCell {a w : World} (h : KeptM M B a w) {p : Addr} (hB : B ≤ p.block) {t : TypeId} (ht : t ∈ M) (hk : kindOf w.heap[p.block]? = some t) (u : Value) : KeptM M B a (w.setCell p u) :=
  h.trans ⟨rfl, rfl, rfl, by simp [World.setCell], fun k _ hc => Below.heap_setCell _ _ _ _ (fun e => by
    rcases hc with hc | hc
    · omega
    · exact hc t ht (by rw [e]; exact hk))⟩
theorem KeptM.grown {a w w' : World} {row : Option Nat} (h : KeptM M B a w) (hg : w.grownBy w' row) {t : TypeId} (ht : t ∈ M)
    (hr : ∀ k, row = some k → B ≤ k ∧ kindOf w.heap[k]? = some t) : KeptM M B a w' :=
  h.trans ⟨hg.os, hg.tape, hg.output, hg.size,
    fun k hk hc => hg.block k hk (fun e => by
      have := hr k e.symm
      rcases hc with hc | hc
      · omega
      · exact hc t ht this.2)⟩
theorem KeptM.below {w w' : World} (h : KeptM M B w w') (hB : B ≤ w.heap.size) : Below B w w' :=
  ⟨h.os, h.tape, h.output, h.size, fun k hk => h.block k (by omega) (.inl hk)⟩
theorem KeptM.of_below {w w' : World} (h : Below w.heap.size w w') : KeptM M B w w' :=
  ⟨h.os, h.tape, h.output, h.size, fun k hk _ => h.block k hk⟩
end

abbrev tW : TypeId := 46
abbrev tStr : TypeId := 9
abbrev tInt : TypeId := 3
abbrev tBd : TypeId := 61
abbrev tRu : TypeId := 25
abbrev MW : List TypeId := [tW, tB, tStr, tInt, tBd]

/-- The kind of the row that a value owns. -/
theorem rowKind {w : World} {B size : Nat} {e : TypeId} {v : Value} {n : Nat} {xs : List Value} (h : w.ownsRow B e size v n xs) : ∀ k, v.ownBlock = some k → B ≤ k ∧ kindOf w.heap[k]? = some e := by
  intro k hk
  refine ⟨(h.lt k hk).1, ?_⟩
  rcases h.2 with ⟨rfl, _⟩ | ⟨g, cap, cur, rfl, _, hg, _⟩
  · simp [Value.ownBlock] at hk
  · simp only [Value.ownBlock, Option.some.injEq] at hk
    subst hk
    rw [hg]; rfl
/-- An owned row stays where another kind of row is written. -/
theorem rowKept {w w' : World} {B size : Nat} {e e' : TypeId} {v : Value} {n : Nat} {xs : List Value} {row : Option Nat} (h : w.ownsRow B e size v n xs) (hg : w.grownBy w' row) (hne : e ≠ e')
    (hr : ∀ k, row = some k → kindOf w.heap[k]? = some e') : w'.ownsRow B e size v n xs := by
  refine h.kept hg ?_
  cases hv : v.ownBlock with
  | none => exact .inl rfl
  | some k =>
    refine .inr fun e1 => hne ?_
    have h1 := (rowKind h k hv).2
    have h2 := hr k e1.symm
    rw [h1] at h2
    exact Option.some.inj h2
theorem grown_setCell (w : World) (p : Addr) (u : Value) : w.grownBy (w.setCell p u) (some p.block) :=
  ⟨rfl, rfl, rfl, by simp [World.setCell], fun k _ hk => Below.heap_setCell _ _ _ _ (fun e => hk (by simp [e]))⟩

/-- What a writer holds (of its texts and marks only how many). -/
structure WR where
  out : List UInt8
  plain : Bool
  empty : Bool
  bound : Nat
  bounds : List (Nat × Nat)
  cnt : Nat

def bdv (l : List (Nat × Nat)) : List Value := l.flatMap fun p => [.int .i64 p.1, .int .i64 p.2]

def WR.cs (r : WR) (vo vt vm vb : Value) : Array Value :=
  #[vo, vt, vm, .slice none 0 0, .int .i64 0, .bool r.plain, .bool r.empty, .int .i64 r.bound, vb, .slice none 0 0]

structure WrV (B b : Nat) (r : WR) (vo vt vm vb : Value) (ts : List ByteArray) (ms : List Int) (w : World) : Prop where
  hB : B ≤ b
  hw : B ≤ w.heap.size
  tab : Tabs B w
  heap : w.heap[b]? = some (.cells (r.cs vo vt vm vb) tW (0, 0))
  out : w.ownsRow B tB 1 vo r.out.length (bv r.out)
  texts : w.ownsRow B tStr 1 vt ts.length (ts.map Value.string)
  marks : w.ownsRow B tInt 1 vm ms.length (ms.map (Value.int .i64))
  bds : w.ownsRow B tBd 2 vb r.bounds.length (bdv r.bounds)
  nt : ts.length ≤ r.cnt
  nm : ms.length ≤ r.cnt
  nb : r.bounds.length ≤ r.out.length
  bd : r.bound ≤ 20 * r.out.length

def Wr (B b : Nat) (r : WR) (w : World) : Prop := ∃ vo vt vm vb ts ms, WrV B b r vo vt vm vb ts ms w

section
variable {B b : Nat} {r : WR} {vo vt vm vb : Value} {ts : List ByteArray} {ms : List Int} {w : World}
theorem WrV.wr (h : WrV B b r vo vt vm vb ts ms w) : Wr B b r w := ⟨_, _, _, _, _, _, h⟩
theorem WrV.lt (h : WrV B b r vo vt vm vb ts ms w) : b < w.heap.size := (Array.getElem?_eq_some_iff.1 h.heap).1
theorem WrV.c0 (h : WrV B b r vo vt vm vb ts ms w) : w.cell? ⟨b, 0, none⟩ = some vo := by rw [cellAt h.heap]; rfl
theorem WrV.c1 (h : WrV B b r vo vt vm vb ts ms w) : w.cell? ⟨b, 1, none⟩ = some vt := by rw [cellAt h.heap]; rfl
theorem WrV.c2 (h : WrV B b r vo vt vm vb ts ms w) : w.cell? ⟨b, 2, none⟩ = some vm := by rw [cellAt h.heap]; rfl
theorem WrV.c3 (h : WrV B b r vo vt vm vb ts ms w) : w.cell? ⟨b, 3, none⟩ = some (.slice none 0 0) := by rw [cellAt h.heap]; rfl
theorem WrV.c5 (h : WrV B b r vo vt vm vb ts ms w) : w.cell? ⟨b, 5, none⟩ = some (.bool r.plain) := by rw [cellAt h.heap]; rfl
theorem WrV.c6 (h : WrV B b r vo vt vm vb ts ms w) : w.cell? ⟨b, 6, none⟩ = some (.bool r.empty) := by rw [cellAt h.heap]; rfl
theorem WrV.c7 (h : WrV B b r vo vt vm vb ts ms w) : w.cell? ⟨b, 7, none⟩ = some (.int .i64 r.bound) := by rw [cellAt h.heap]; rfl
theorem WrV.c8 (h : WrV B b r vo vt vm vb ts ms w) : w.cell? ⟨b, 8, none⟩ = some vb := by rw [cellAt h.heap]; rfl
theorem WrV.c9 (h : WrV B b r vo vt vm vb ts ms w) : w.cell? ⟨b, 9, none⟩ = some (.slice none 0 0) := by rw [cellAt h.heap]; rfl
theorem WrV.fz (h : WrV B b r vo vt vm vb ts ms w) (j : Nat) : w.frozen? ⟨b, j, none⟩ = false := Lib.frozen_of_heap h.heap j
theorem WrV.kind (h : WrV B b r vo vt vm vb ts ms w) : kindOf w.heap[b]? = some tW := by rw [h.heap]; rfl

/-- A step of the world that leaves the writer's block and rows. -/
theorem WrV.grownBy {w' : World} {row : Option Nat} {e : TypeId} (h : WrV B b r vo vt vm vb ts ms w) (hg : w.grownBy w' row) (hrow : ∀ k, row = some k → B ≤ k ∧ kindOf w.heap[k]? = some e)
    (h0 : tW ≠ e) (h1 : tB ≠ e) (h2 : tStr ≠ e) (h3 : tInt ≠ e) (h4 : tBd ≠ e) : WrV B b r vo vt vm vb ts ms w' := by
  have hr : ∀ k, row = some k → kindOf w.heap[k]? = some e := fun k hk => (hrow k hk).2
  refine ⟨h.hB, by have := hg.size; have := h.hw; omega, h.tab.same fun k hk => hg.block k (by have := h.hw; omega) (fun e1 => by have := (hrow k e1.symm).1; omega), ?_,
    rowKept h.out hg h1 hr, rowKept h.texts hg h2 hr, rowKept h.marks hg h3 hr, rowKept h.bds hg h4 hr, h.nt, h.nm, h.nb, h.bd⟩
  rw [hg.block b h.lt (fun e1 => by have := hr b e1.symm; rw [h.kind] at this; exact h0 (Option.some.inj this))]
  exact h.heap
theorem WrV.alloc (h : WrV B b r vo vt vm vb ts ms w) (o : Obj) : WrV B b r vo vt vm vb ts ms (w.alloc o) :=
  ⟨h.hB, by have := h.hw; simp; omega, h.tab.same (fun k hk => Below.heap_alloc _ _ _ (by have := h.hw; omega)), (Below.heap_alloc _ _ _ h.lt).trans h.heap, h.out.alloc o, h.texts.alloc o, h.marks.alloc o, h.bds.alloc o, h.nt, h.nm, h.nb, h.bd⟩
theorem WrV.drewN (h : WrV B b r vo vt vm vb ts ms w) (n : Nat) : WrV B b r vo vt vm vb ts ms (w.drewN n) := ⟨h.hB, h.hw, h.tab, h.heap, h.out, h.texts, h.marks, h.bds, h.nt, h.nm, h.nb, h.bd⟩

/-- A store into the writer's own block. -/
theorem WrV.put {j : Nat} {v : Value} (h : WrV B b r vo vt vm vb ts ms w) (r' : WR) (hc : (r.cs vo vt vm vb).setIfInBounds j v = r'.cs vo vt vm vb) (ho : r'.out = r.out) (hb : r'.bounds = r.bounds) (hn : r'.cnt = r.cnt) (hbd : r'.bound ≤ 20 * r'.out.length) :
    WrV B b r' vo vt vm vb ts ms (w.setCell ⟨b, j, none⟩ v) := by
  have hg := grown_setCell w ⟨b, j, none⟩ v
  have hr : ∀ k, some b = some k → kindOf w.heap[k]? = some tW := fun k e => by cases e; exact h.kind
  exact ⟨h.hB, by simpa [World.setCell] using h.hw, h.tab.same (fun k hk => Below.heap_setCell _ _ _ _ (by have := h.hB; simp; omega)), by rw [setCell_heap h.heap, hc],
    by rw [ho]; exact rowKept h.out hg (by decide) hr, rowKept h.texts hg (by decide) hr, rowKept h.marks hg (by decide) hr, by rw [hb]; exact rowKept h.bds hg (by decide) hr, by rw [hn]; exact h.nt, by rw [hn]; exact h.nm, by rw [ho, hb]; exact h.nb, hbd⟩
theorem WrV.setEmpty (h : WrV B b r vo vt vm vb ts ms w) (x : Bool) : WrV B b { r with empty := x } vo vt vm vb ts ms (w.setCell ⟨b, 6, none⟩ (.bool x)) := h.put _ rfl rfl rfl rfl h.bd
theorem WrV.setBound (h : WrV B b r vo vt vm vb ts ms w) (n : Nat) {i : Int} (hi : i = n) (hb : n ≤ 20 * r.out.length) : WrV B b { r with bound := n } vo vt vm vb ts ms (w.setCell ⟨b, 7, none⟩ (.int .i64 i)) := by subst hi; exact h.put _ rfl rfl rfl rfl hb

/-- Bytes laid behind. -/
theorem WrV.setOut {w' : World} {vo' : Value} {l : List UInt8} (h : WrV B b r vo vt vm vb ts ms w) (hg : w.grownBy w' vo.ownBlock) (hown : w'.ownsRow B tB 1 vo' l.length (bv l)) (hl : r.out.length ≤ l.length) :
    w'.heap[b]? = some (.cells (r.cs vo vt vm vb) tW (0, 0)) ∧ WrV B b { r with out := l } vo' vt vm vb ts ms (w'.setCell ⟨b, 0, none⟩ vo') := by
  have hr : ∀ k, vo.ownBlock = some k → kindOf w.heap[k]? = some tB := fun k e => (rowKind h.out k e).2
  have hb : w'.heap[b]? = some (.cells (r.cs vo vt vm vb) tW (0, 0)) := by
    rw [hg.block b h.lt (fun e => by have := hr b e.symm; rw [h.kind] at this; exact absurd (Option.some.inj this) (by decide))]
    exact h.heap
  have hg2 := grown_setCell w' ⟨b, 0, none⟩ vo'
  have hr2 : ∀ k, some b = some k → kindOf w'.heap[k]? = some tW := fun k e => by cases e; rw [hb]; rfl
  refine ⟨hb, h.hB, by have := hg.size; have := h.hw; simp [World.setCell]; omega, h.tab.same (fun k hk => ?_), by rw [setCell_heap hb]; rfl, rowKept hown hg2 (by decide) hr2,
    rowKept (rowKept h.texts hg (by decide) hr) hg2 (by decide) hr2, rowKept (rowKept h.marks hg (by decide) hr) hg2 (by decide) hr2, rowKept (rowKept h.bds hg (by decide) hr) hg2 (by decide) hr2, h.nt, h.nm, Nat.le_trans h.nb hl, Nat.le_trans h.bd (Nat.mul_le_mul (Nat.le_refl _) hl)⟩
  rw [Below.heap_setCell _ _ _ _ (by have := h.hB; simp; omega)]
  exact hg.block k (by have := h.hw; omega) (fun e => by have := (rowKind h.out k e.symm).1; omega)
/-- A text, and where it was written, laid behind. -/
theorem WrV.setTexts {w' : World} {vt' : Value} {ts' : List ByteArray} (h : WrV B b r vo vt vm vb ts ms w) (hg : w.grownBy w' vt.ownBlock) (hown : w'.ownsRow B tStr 1 vt' ts'.length (ts'.map Value.string)) (hl : ts'.length ≤ r.cnt) :
    w'.heap[b]? = some (.cells (r.cs vo vt vm vb) tW (0, 0)) ∧ WrV B b r vo vt' vm vb ts' ms (w'.setCell ⟨b, 1, none⟩ vt') := by
  have hr : ∀ k, vt.ownBlock = some k → kindOf w.heap[k]? = some tStr := fun k e => (rowKind h.texts k e).2
  have hb : w'.heap[b]? = some (.cells (r.cs vo vt vm vb) tW (0, 0)) := by
    rw [hg.block b h.lt (fun e => by have := hr b e.symm; rw [h.kind] at this; exact absurd (Option.some.inj this) (by decide))]
    exact h.heap
  have hg2 := grown_setCell w' ⟨b, 1, none⟩ vt'
  have hr2 : ∀ k, some b = some k → kindOf w'.heap[k]? = some tW := fun k e => by cases e; rw [hb]; rfl
  refine ⟨hb, h.hB, by have := hg.size; have := h.hw; simp [World.setCell]; omega, h.tab.same (fun k hk => ?_), by rw [setCell_heap hb]; rfl, rowKept (rowKept h.out hg (by decide) hr) hg2 (by decide) hr2,
    rowKept hown hg2 (by decide) hr2, rowKept (rowKept h.marks hg (by decide) hr) hg2 (by decide) hr2, rowKept (rowKept h.bds hg (by decide) hr) hg2 (by decide) hr2, hl, h.nm, h.nb, h.bd⟩
  rw [Below.heap_setCell _ _ _ _ (by have := h.hB; simp; omega)]
  exact hg.block k (by have := h.hw; omega) (fun e => by have := (rowKind h.texts k e.symm).1; omega)
theorem WrV.setMarks {w' : World} {vm' : Value} {ms' : List Int} (h : WrV B b r vo vt vm vb ts ms w) (hg : w.grownBy w' vm.ownBlock) (hown : w'.ownsRow B tInt 1 vm' ms'.length (ms'.map (Value.int .i64))) (hl : ms'.length ≤ r.cnt) :
    w'.heap[b]? = some (.cells (r.cs vo vt vm vb) tW (0, 0)) ∧ WrV B b r vo vt vm' vb ts ms' (w'.setCell ⟨b, 2, none⟩ vm') := by
  have hr : ∀ k, vm.ownBlock = some k → kindOf w.heap[k]? = some tInt := fun k e => (rowKind h.marks k e).2
  have hb : w'.heap[b]? = some (.cells (r.cs vo vt vm vb) tW (0, 0)) := by
    rw [hg.block b h.lt (fun e => by have := hr b e.symm; rw [h.kind] at this; exact absurd (Option.some.inj this) (by decide))]
    exact h.heap
  have hg2 := grown_setCell w' ⟨b, 2, none⟩ vm'
  have hr2 : ∀ k, some b = some k → kindOf w'.heap[k]? = some tW := fun k e => by cases e; rw [hb]; rfl
  refine ⟨hb, h.hB, by have := hg.size; have := h.hw; simp [World.setCell]; omega, h.tab.same (fun k hk => ?_), by rw [setCell_heap hb]; rfl, rowKept (rowKept h.out hg (by decide) hr) hg2 (by decide) hr2,
    rowKept (rowKept h.texts hg (by decide) hr) hg2 (by decide) hr2, rowKept hown hg2 (by decide) hr2, rowKept (rowKept h.bds hg (by decide) hr) hg2 (by decide) hr2, h.nt, hl, h.nb, h.bd⟩
  rw [Below.heap_setCell _ _ _ _ (by have := h.hB; simp; omega)]
  exact hg.block k (by have := h.hw; omega) (fun e => by have := (rowKind h.marks k e.symm).1; omega)
/-- One more piece is counted. -/
theorem WrV.more (h : WrV B b r vo vt vm vb ts ms w) : WrV B b { r with cnt := r.cnt + 1 } vo vt vm vb ts ms w :=
  ⟨h.hB, h.hw, h.tab, h.heap, h.out, h.texts, h.marks, h.bds, Nat.le_trans h.nt (Nat.le_succ _), Nat.le_trans h.nm (Nat.le_succ _), h.nb, h.bd⟩
theorem WrV.keeps {a : World} (h : WrV B b r vo vt vm vb ts ms w) (k : KeptM MW B a w) (j : Nat) (v : Value) : KeptM MW B a (w.setCell ⟨b, j, none⟩ v) :=
  k.setCell h.hB (t := tW) (by decide) h.kind v
end
end Go.Proofs.YtdapnoocmpbijaaGreatDoor

/- put. -/
namespace Go.Proofs.YtdapnoocmpbijaaGreatDoor
open Go.RowKit

/-- What put makes of a writer. -/
def WR.put (r : WR) (l : List UInt8) : WR := if l = [] then r else { r with out := r.out ++ (sepOf r.empty l ++ l), empty := false }

set_option maxHeartbeats 2000000 in
set_option maxRecDepth 100000 in
theorem put_plain (B b : Nat) (r : WR) (c : UInt8) (l : List UInt8) (w : World) (h : Wr B b r w) (hl : r.out.length + (c :: l).length ≤ 1000000000)
    (hc : r.empty = false ∨ (r.empty = true ∧ ((c.toNat : Int) == 95) = false ∧ decide (48 ≤ (c.toNat : Int)) = false) ∨ (r.empty = true ∧ ((c.toNat : Int) == 95) = false ∧ decide (48 ≤ (c.toNat : Int)) = true ∧ decide ((c.toNat : Int) ≤ 57) = false)) :
    Calls Tryz.prog 31 #[.pointer (some ⟨b, 0, none⟩), .string (bs (c :: l))] w fun e w' => e = .returned (.tuple #[]) ∧ Wr B b { r with out := r.out ++ (c :: l), empty := false } w' ∧ KeptM MW B w w' := by
  obtain ⟨vo, vt, vm, vb, ts, ms, h⟩ := h
  obtain ⟨i0, hi, hz0, hz1, hz2⟩ := info_parts infoB
  have c6 := h.c6
  have g6 := h.fz 6
  have c0 := h.c0
  have hll : l.length ≤ 1000000000 := by simp at hl; omega
  have hol : r.out.length + (l.length + 1) ≤ 1000000000 := by simpa using hl
  have fin : ∀ (w2 : World) (v' : Value), (w.setCell ⟨b, 6, none⟩ (.bool false)).grownBy w2 vo.ownBlock → w2.ownsRow B tB 1 v' (r.out.length + (bs (c :: l)).size) (bv r.out ++ Lib.strCells (bs (c :: l))) →
      w2.heap[b]? = some (.cells (({ r with empty := false } : WR).cs vo vt vm vb) tW (0, 0)) ∧ Wr B b { r with out := r.out ++ (c :: l), empty := false } (w2.setCell ⟨b, 0, none⟩ v') ∧ KeptM MW B w (w2.setCell ⟨b, 0, none⟩ v') := by
    intro w2 v' hg hown
    have h1 := h.setEmpty false
    have hown2 : w2.ownsRow B tB 1 v' (r.out ++ (c :: l)).length (bv (r.out ++ (c :: l))) := by
      rw [strCells_bv, bs_list] at hown
      have e1 : (r.out ++ (c :: l)).length = r.out.length + (bs (c :: l)).size := by simp
      rw [e1]; simpa [bv] using hown
    obtain ⟨hb, h2⟩ := h1.setOut hg hown2 (by simp)
    exact ⟨hb, h2.wr, ((h.keeps (KeptM.refl w) 6 _).grown hg (t := tB) (by decide) (fun k e => rowKind h1.out k e)).setCell (p := ⟨b, 0, none⟩) h.hB (t := tW) (by decide) (by rw [hb, kindOf]) _⟩
  have FIN := Lib.hid fin
  have hown := (h.setEmpty false).out
  have hBw : B ≤ w.heap.size := h.hw
  have c0' : (w.setCell ⟨b, 6, none⟩ (.bool false)).cell? ⟨b, 0, none⟩ = some vo := (h.setEmpty false).c0
  have ht : (bs (c :: l)).toList.isEmpty = false := by rw [ByteArray.toList_eq]; rfl
  have h63 : r.out.length + (bs (c :: l)).size ≤ maxLen := by simp; unfold maxLen; omega
  have h64 : r.out.length + (bs (c :: l)).size ≤ 140737488355328 := by simp; omega
  have hBw' : B ≤ (w.setCell ⟨b, 6, none⟩ (.bool false)).heap.size := by simpa [World.setCell] using hBw
  clear fin h hl
  rcases hc with he | ⟨he, h95, hlt⟩ | ⟨he, h95, hgt, hgt2⟩
  all_goals
    rw [he] at c6
    clear he
    go_enter Tryz.func31, Tryz.ntmps31
    go_wp2_with (at_builtin; refine Lib.wpList_append_own_string _ rfl _ _ 41 9 rfl B tB i0 Tryz.underlying41 Tryz.underlying9 hi hz0 hz1 hz2 _ _ _ rfl hown (bs (c :: l)) rfl h63 h64 hBw' ?_)
    intro v' w2 hown' hgrow _
    obtain ⟨hb2, R, K⟩ := (FIN : ∀ _ _, _ → _ → _) w2 v' hgrow (by simpa using hown')
    have d0 : w2.cell? ⟨b, 0, none⟩ = some vo := by rw [cellAt hb2]; rfl
    have g0 : w2.frozen? ⟨b, 0, none⟩ = false := Lib.frozen_of_heap hb2 0
    obtain ⟨ao, n', cap, rfl⟩ : ∃ ao n' cap, v' = .slice ao n' cap := by
      rcases hown'.2 with ⟨hv, _⟩ | ⟨g, cap, cur, hv, _⟩
      · exact ⟨_, _, _, hv⟩
      · exact ⟨_, _, _, hv⟩
    clear hown' hgrow hown hb2 FIN
    go_wp2
    go_end0
    exact ⟨rfl, R, K⟩

theorem put_nil (b : Nat) (w : World) : Calls Tryz.prog 31 #[.pointer (some ⟨b, 0, none⟩), .string (bs [])] w fun e w' => e = .returned (.tuple #[]) ∧ w = w' := by
  have ht : (bs []).toList.isEmpty = true := by rw [ByteArray.toList_eq]; rfl
  go_enter Tryz.func31, Tryz.ntmps31
  go_wp2
  refine bodyPost_ret (results_none rfl _ _ _) rfl ?_
  exact ⟨rfl, rfl⟩

set_option maxHeartbeats 2000000 in
set_option maxRecDepth 100000 in
theorem put_sep (B b : Nat) (r : WR) (c : UInt8) (l : List UInt8) (w : World) (h : Wr B b r w) (hl : r.out.length + (c :: l).length + 1 ≤ 1000000000) (he : r.empty = true)
    (hc : ((c.toNat : Int) == 95) = true ∨ (((c.toNat : Int) == 95) = false ∧ decide (48 ≤ (c.toNat : Int)) = true ∧ decide ((c.toNat : Int) ≤ 57) = true)) :
    Calls Tryz.prog 31 #[.pointer (some ⟨b, 0, none⟩), .string (bs (c :: l))] w fun e w' => e = .returned (.tuple #[]) ∧ Wr B b { r with out := r.out ++ (95 :: c :: l), empty := false } w' ∧ KeptM MW B w w' := by
  obtain ⟨vo, vt, vm, vb, ts, ms, h⟩ := h
  obtain ⟨i0, hi, hz0, hz1, hz2⟩ := info_parts infoB
  have c6 := h.c6
  have g6 := h.fz 6
  have c0 := h.c0
  have ht : (bs (c :: l)).toList.isEmpty = false := by rw [ByteArray.toList_eq]; rfl
  rw [he] at c6
  clear he
  have hown := h.out
  have hBw : B ≤ w.heap.size := h.hw
  have hol : r.out.length + (l.length + 1) + 1 ≤ 1000000000 := by simpa using hl
  have h1 : WrV B b r vo vt vm vb ts ms (w.alloc (.cells #[.int .u8 (95 : UInt8).toNat] tB)) := h.alloc _
  have p1 : ∀ (j : Nat) (u : Value), ([.int .u8 (95 : UInt8).toNat] : List Value)[j]? = some u → (w.alloc (.cells #[.int .u8 (95 : UInt8).toNat] tB)).cell? ((⟨w.heap.size, 0, none⟩ : Addr).add j) = some u := by
    intro j u hj
    match j, hj with
    | 0, hj => simp at hj; subst hj; simp [Addr.add]
  have p3 : r.out.length + 1 ≤ maxLen := by unfold maxLen; omega
  have p4 : (r.out.length + 1) * 1 ≤ 140737488355328 := by omega
  have p5 : B ≤ (w.alloc (.cells #[.int .u8 (95 : UInt8).toNat] tB)).heap.size := by simp; omega
  have hown0 := h1.out
  have k1 : KeptM MW B w (w.alloc (.cells #[.int .u8 (95 : UInt8).toNat] tB)) := (KeptM.refl w).alloc _
  have fin : ∀ (w2 : World) (v' : Value), (w.alloc (.cells #[.int .u8 (95 : UInt8).toNat] tB)).grownBy w2 vo.ownBlock → w2.ownsRow B tB 1 v' (r.out.length + 1) (bv r.out ++ [.int .u8 (95 : UInt8).toNat]) →
      w2.heap[b]? = some (.cells (r.cs vo vt vm vb) tW (0, 0)) ∧ WrV B b { r with out := r.out ++ [95], empty := false } v' vt vm vb ts ms ((w2.setCell ⟨b, 0, none⟩ v').setCell ⟨b, 6, none⟩ (.bool false)) ∧ KeptM MW B w ((w2.setCell ⟨b, 0, none⟩ v').setCell ⟨b, 6, none⟩ (.bool false)) := by
    intro w2 v' hg hown
    have hown2 : w2.ownsRow B tB 1 v' (r.out ++ [95]).length (bv (r.out ++ [95])) := by
      have e1 : (r.out ++ [(95 : UInt8)]).length = r.out.length + 1 := by simp
      rw [e1]; simpa [bv] using hown
    obtain ⟨hb, h2⟩ := h1.setOut hg hown2 (by simp)
    exact ⟨hb, h2.setEmpty false, h2.keeps ((k1.grown hg (t := tB) (by decide) (fun k e => rowKind h1.out k e)).setCell (p := ⟨b, 0, none⟩) h.hB (t := tW) (by decide) (by rw [hb, kindOf]) _) 6 _⟩
  have FIN := Lib.hid fin
  have P1 := Lib.hid p1
  clear fin h hl h1 k1 p1
  rcases hc with h95 | ⟨h95, hgt, hgt2⟩
  all_goals
    go_enter Tryz.func31, Tryz.ntmps31
    go_wp2_with (at_builtin; refine wpList_append_own _ rfl _ _ 41 rfl B tB i0 (.int .u8 0) 1 1 Tryz.underlying41 hi hz0 hz1 hz2 rfl (by decide) _ _ _ rfl hown0 ⟨w.heap.size, 0, none⟩ 1 1 [.int .u8 (95 : UInt8).toNat] rfl rfl P1 (by intro u hu; simp at hu; subst hu; rfl) p3 p4 p5 ?_)
    intro v' w2 hown' hgrow _
    obtain ⟨hb2, R, K⟩ := (FIN : ∀ _ _, _ → _ → _) w2 v' hgrow (by simpa using hown')
    have d0 : w2.cell? ⟨b, 0, none⟩ = some vo := by rw [cellAt hb2]; rfl
    have g0 : w2.frozen? ⟨b, 0, none⟩ = false := Lib.frozen_of_heap hb2 0
    have d6 : (w2.setCell ⟨b, 0, none⟩ v').cell? ⟨b, 6, none⟩ = some (.bool r.empty) := by
      rw [cellAt (setCell_heap hb2 0 v')]; rfl
    have g6' : (w2.setCell ⟨b, 0, none⟩ v').frozen? ⟨b, 6, none⟩ = false := Lib.frozen_of_heap (setCell_heap hb2 0 v') 6
    obtain ⟨ao, n', cap, rfl⟩ : ∃ ao n' cap, v' = .slice ao n' cap := by
      rcases hown'.2 with ⟨hv, _⟩ | ⟨g, cap, cur, hv, _⟩
      · exact ⟨_, _, _, hv⟩
      · exact ⟨_, _, _, hv⟩
    clear hown' hgrow hown hb2 FIN P1 hown0
    have own2 := R.out
    have c0' := R.c0
    have h63 : (r.out ++ [95]).length + (bs (c :: l)).size ≤ maxLen := by simp; unfold maxLen; omega
    have h64 : (r.out ++ [95]).length + (bs (c :: l)).size ≤ 140737488355328 := by simp; omega
    have hBw' := R.hw
    have fin : ∀ (w4 : World) (v' : Value), ((w2.setCell ⟨b, 0, none⟩ (.slice ao n' cap)).setCell ⟨b, 6, none⟩ (.bool false)).grownBy w4 (Value.slice ao n' cap).ownBlock → w4.ownsRow B tB 1 v' ((r.out ++ [95]).length + (bs (c :: l)).size) (bv (r.out ++ [95]) ++ Lib.strCells (bs (c :: l))) →
        w4.heap[b]? = some (.cells (({ r with out := r.out ++ [95], empty := false } : WR).cs (.slice ao n' cap) vt vm vb) tW (0, 0)) ∧ Wr B b { r with out := r.out ++ (95 :: c :: l), empty := false } (w4.setCell ⟨b, 0, none⟩ v') ∧ KeptM MW B w (w4.setCell ⟨b, 0, none⟩ v') := by
      intro w4 v' hg hown
      have hown2 : w4.ownsRow B tB 1 v' (r.out ++ (95 :: c :: l)).length (bv (r.out ++ (95 :: c :: l))) := by
        rw [strCells_bv, bs_list] at hown
        have e1 : (r.out ++ (95 :: c :: l)).length = (r.out ++ [95]).length + (bs (c :: l)).size := by simp; omega
        rw [e1]; simpa [bv] using hown
      obtain ⟨hb, h2⟩ := R.setOut hg hown2 (by simp)
      exact ⟨hb, h2.wr, (K.grown hg (t := tB) (by decide) (fun k e => rowKind R.out k e)).setCell (p := ⟨b, 0, none⟩) R.hB (t := tW) (by decide) (by rw [hb, kindOf]) _⟩
    have FIN := Lib.hid fin
    clear fin R K
    go_wp2_with (at_builtin; refine Lib.wpList_append_own_string _ rfl _ _ 41 9 rfl B tB i0 Tryz.underlying41 Tryz.underlying9 hi hz0 hz1 hz2 _ _ _ rfl own2 (bs (c :: l)) rfl h63 h64 hBw' ?_)
    intro v' w4 hown' hgrow _
    obtain ⟨hb4, R, K⟩ := (FIN : ∀ _ _, _ → _ → _) w4 v' hgrow (by simpa using hown')
    have d0 : w4.cell? ⟨b, 0, none⟩ = some (.slice ao n' cap) := by rw [cellAt hb4]; rfl
    have g0 : w4.frozen? ⟨b, 0, none⟩ = false := Lib.frozen_of_heap hb4 0
    obtain ⟨ao', n'', cap', rfl⟩ : ∃ ao n' cap, v' = .slice ao n' cap := by
      rcases hown'.2 with ⟨hv, _⟩ | ⟨g, cap, cur, hv, _⟩
      · exact ⟨_, _, _, hv⟩
      · exact ⟨_, _, _, hv⟩
    clear hown' hgrow own2 hb4 FIN
    go_wp2
    go_end0
    exact ⟨rfl, R, K⟩

/-- A text is put behind. -/
theorem put_any (B b : Nat) (r : WR) (l : List UInt8) (w : World) (h : Wr B b r w) (hl : r.out.length + l.length + 1 ≤ 1000000000) :
    Calls Tryz.prog 31 #[.pointer (some ⟨b, 0, none⟩), .string (bs l)] w fun e w' => e = .returned (.tuple #[]) ∧ Wr B b (r.put l) w' ∧ KeptM MW B w w' := by
  cases l with
  | nil =>
    refine (put_nil b w).mono ?_
    rintro e w' ⟨rfl, rfl⟩
    exact ⟨rfl, by simpa [WR.put] using h, KeptM.refl _⟩
  | cons c l =>
    have e0 : r.put (c :: l) = { r with out := r.out ++ (sepOf r.empty (c :: l) ++ (c :: l)), empty := false } := by simp [WR.put]
    have pl : (r.empty && startsDU (c :: l)) = false → r.put (c :: l) = { r with out := r.out ++ (c :: l), empty := false } := by
      intro h; rw [e0]; simp [sepOf, h]
    cases he : r.empty with
    | false =>
      refine (put_plain B b r c l w h (by simpa [Nat.add_assoc] using (by simp at hl ⊢; omega : r.out.length + (c :: l).length ≤ 1000000000)) (.inl he)).mono ?_
      rintro e w' ⟨rfl, h1, k⟩
      rw [pl (by simp [he])]
      exact ⟨rfl, h1, k⟩
    | true =>
      by_cases hs : startsDU (c :: l) = true
      · refine (put_sep B b r c l w h (by omega) he ?_).mono ?_
        · unfold startsDU at hs
          simp only [Bool.or_eq_true, Bool.and_eq_true, decide_eq_true_eq] at hs
          by_cases h5 : c.toNat = 95
          · exact .inl (by rw [h5]; decide)
          · refine .inr ⟨by rw [beq_eq_false_iff_ne]; omega, ?_, ?_⟩
            · simp; omega
            · simp; omega
        · rintro e w' ⟨rfl, h1, k⟩
          have e1 : sepOf r.empty (c :: l) = [95] := by simp [sepOf, he, hs]
          rw [e0, e1]
          exact ⟨rfl, h1, k⟩
      · have hs' : startsDU (c :: l) = false := by simpa using hs
        refine (put_plain B b r c l w h (by simp at hl ⊢; omega) (.inr ?_)).mono ?_
        · unfold startsDU at hs'
          simp only [Bool.or_eq_false_iff, Bool.and_eq_false_iff, decide_eq_false_iff_not] at hs'
          obtain ⟨h5, h6⟩ := hs'
          have h5' : ((c.toNat : Int) == 95) = false := by rw [beq_eq_false_iff_ne]; omega
          rcases Nat.lt_or_ge c.toNat 48 with h | h
          · exact .inl ⟨he, h5', by simp; omega⟩
          · exact .inr ⟨he, h5', by simp; omega, by simp; omega⟩
        · rintro e w' ⟨rfl, h1, k⟩
          rw [pl (by simp [hs'])]
          exact ⟨rfl, h1, k⟩
end Go.Proofs.YtdapnoocmpbijaaGreatDoor

/- One byte, as a text. -/
namespace Go.Proofs.YtdapnoocmpbijaaGreatDoor
open Go.RowKit

theorem conv1k (w : World) (k : Nat) (hk : k = w.heap.size) (c : UInt8) (v : Int) (hv : v = c.toNat) :
    (convert 41 9 (.slice (some ⟨k, 0, none⟩) 1 1)).run Tryz.prog (w.alloc (.cells #[.int .u8 v] 5)) = .ok (.string (bs [c])) (w.alloc (.cells #[.int .u8 v] 5)) := by
  subst hk; exact conv1 w c v hv
end Go.Proofs.YtdapnoocmpbijaaGreatDoor

