/- expandPunycode. -/
import Derived.Test.YtidokamjbglkbaaGreatDoorY11
import Derived.Laws.CopyOwn
import Derived.Laws.Cover4
import Derived.Laws.OwnMore
import Derived.Laws.IdiomStrings
import Derived.StillTailTactics
import Derived.Deep.RegionLaw
import Derived.Deep.DeepCutAuto
import Derived.Deep.CutBlock
namespace Go.Proofs.YtidokamjbglkbaaGreatDoor
open Go.RowKit

/-- Runes as cells. -/
def rv32 (l : List Nat) : List Value := l.map fun c : Nat => .int .i32 c
abbrev t32 : TypeId := 21
theorem info32 : (Tryz.prog.info? t32).map (fun i => (i.zero, i.size, i.bytes)) = some (some (.int .i32 0), 1, 4) := by kernel_rfl
theorem info_parts4 {P : Program} {t : TypeId} {z : Value} (h : (P.info? t).map (fun i => (i.zero, i.size, i.bytes)) = some (some z, 1, 4)) : ∃ i, P.info? t = some i ∧ i.zero = some z ∧ i.size = 1 ∧ i.bytes = 4 := by
  cases hi : P.info? t with
  | none => rw [hi] at h; cases h
  | some i =>
    rw [hi] at h
    simp only [Option.map_some, Option.some.injEq, Prod.mk.injEq] at h
    exact ⟨i, rfl, h.1, h.2.1, h.2.2⟩

theorem conv32 {w : World} {B : Nat} {v : Value} {l : List Nat} (h : w.ownsRow B t32 1 v l.length (rv32 l)) :
    (convert 135 9 v).run Tryz.prog w = .ok (.string (bs (l.flatMap enc8))) w := by
  have hc := fun g (hg : v.ownBlock = some g) => h.cells (g := g) hg
  rcases h.2 with ⟨rfl, h0⟩ | ⟨g, cap, cur, rfl, _⟩
  · have : l = [] := List.eq_nil_of_length_eq_zero h0
    subst this
    exact run_convert_runes_nil w _ _ t32 0 0 Tryz.underlying135 Tryz.underlying21 Tryz.underlying9
  · have := run_convert_runes (P := Tryz.prog) w 135 9 t32 ⟨g, 0, none⟩ l.length cap (l.map fun c : Nat => (c : Int)) (by simp) Tryz.underlying135 Tryz.underlying21 Tryz.underlying9 (fun j hj => by
      simp at hj
      refine hc g rfl j _ ?_
      simp [rv32, hj])
    rw [this, List.take_of_length_le (by simp), runes_text]
    rfl

theorem one32 (w : World) : ∀ j u, ([.int .i32 0] : List Value)[j]? = some u → (w.alloc (.cells #[.int .i32 0] t32)).cell? ((⟨w.heap.size, 0, none⟩ : Addr).add j) = some u := by
  intro j u hj
  match j, hj with
  | 0, hj => simp at hj; subst hj; simp [Addr.add]
theorem ins_row (cl : List Value) (out : List Nat) (r x L : Nat) (h : cl.take L = rv32 out) (hL : L = out.length) (hr : r ≤ L) (hc : L + 1 ≤ cl.length) :
    ((splice cl (r + 1) ((rv32 out).drop r)).set r (.int .i32 (x : Int))).take (L + 1) = rv32 (insAt out r x) := by
  have hl : (rv32 out).length = L := by rw [hL]; simp [rv32]
  have e1 : cl.take r = (rv32 out).take r := by rw [← h, List.take_take]; congr 1; omega
  have e2 : cl.take (r + 1) = cl.take r ++ [cl[r]'(by omega)] := by rw [List.take_succ_eq_append_getElem (by omega)]
  unfold splice
  rw [e2, List.append_assoc, List.set_append_right _ _ (by simp; omega)]
  have e3 : r - (cl.take r).length = 0 := by simp; omega
  rw [e3, List.singleton_append, List.set_cons_zero]
  have e4 : (cl.take r ++ .int .i32 (x : Int) :: ((rv32 out).drop r ++ cl.drop (r + 1 + ((rv32 out).drop r).length))).take (L + 1) = cl.take r ++ .int .i32 (x : Int) :: (rv32 out).drop r := by
    rw [← List.cons_append, ← List.append_assoc]
    exact List.take_left' (by simp [hl]; omega)
  rw [e4, e1]
  unfold insAt rv32
  rw [List.map_append, List.map_cons, List.map_take, List.map_drop]
theorem copy_size : (Tryz.prog.info? t32).map (·.size) = some 1 := by kernel_rfl
theorem valid_of {n q : Nat} (h : scalar (n + q)) : Lib.validRune ((n : Int) + (q : Int)) = true := by
  unfold scalar at h
  unfold Lib.validRune
  simp
  omega

set_option maxHeartbeats 4000000 in
set_option maxRecDepth 100000 in
theorem expand_bare (e : List UInt8) (fin : List Nat) (b : Nat) (he : ∀ c ∈ e, ∃ d, d < 36 ∧ c = letter d) (hl : e.length ≤ 1000) (hf : fin.length ≤ 60) (hP : Pun 0 128 72 [] e fin) (w : World) :
    Calls Tryz.prog 118 #[.pointer (some ⟨b, 0, none⟩), .string (bs e)] w fun en w' => en = .returned (.string (bs (fin.flatMap enc8))) ∧ Below w.heap.size w w' := by
  have hidx := last_none e (fun c hc => letter_ne c (he c hc))
  have HX : ∀ w, Calls Tryz.prog 127 #[.string (bs e), .string (bs [95])] w fun en w' => en = .returned (.int .i64 (-1)) ∧ w' = w := fun w => by
    have := Tryz.strings_LastIndex_one (bs e) (bs [95]) rfl (by simp; omega) w
    rw [show (((bs [95])[0]'(by decide)).toNat : Int) = 95 from rfl, show Lib.lastIndexByte (bs e) 95 = -1 from hidx] at this
    exact this
  have HX := Lib.hid HX
  have HP := Lib.hid hP
  obtain ⟨i0, ui, uz0, uz1, uz2⟩ := info_parts4 info32
  clear hidx hP he
  go_enter Tryz.func118, Tryz.ntmps118
  go_wp2_with (go_at_call 127; refine (HX.out _).mono ?_; rintro en w1 ⟨rfl, rfl⟩)
  go_loopw [5, 8, 9, 10, 11] (fun v iv nv bv pv wr => ∃ (i n bias pos : Nat) (out : List Nat) (rest : List UInt8), iv = .int .i64 i ∧ nv = .int .i64 n ∧ bv = .int .i64 bias ∧ pv = .int .i64 pos ∧ pos ≤ e.length ∧ rest = e.drop pos ∧
      Pun i n bias out rest fin ∧ i ≤ out.length ∧ n ≤ 1114111 ∧ bias ≤ 400 ∧ wr.ownsRow w1.heap.size t32 1 v out.length (rv32 out) ∧ Below w1.heap.size w1 wr) (fun _ _ _ _ pv _ => e.length - (intOf pv).toNat)
  case atStart => exact ⟨0, 128, 72, 0, [], e, rfl, rfl, rfl, rfl, Nat.zero_le _, rfl, HP.out, Nat.le_refl _, by omega, by omega, World.ownsRow_nil _ _ _ _, Below.refl _ _⟩
  case round =>
    obtain ⟨i, n, bias, pos, out, rest, rfl, rfl, rfl, rfl, hpos, hrest, hP, hi, hn, hb, own, bel⟩ := hrel
    clear HX HP
    cases hP with
    | done =>
      have hpe : pos = e.length := by have := congrArg List.length hrest; simp at this; omega
      subst hpe
      have cv := conv32 own
      have BEL := Lib.hid bel
      have hlt : ¬ (e.length : Int) < e.length := by omega
      clear own hrest hpos hi hn hb bel
      go_wp2_with fail
      go_ret
      exact ⟨rfl, BEL.out⟩
    | step _ _ _ delta q r _ rest2 _ hd hq hr hs hb2 hP' =>
      have hlen := hP'.len
      rw [insAt_len _ _ _ hr] at hlen
      have hpos2 : pos < e.length := by
        have := congrArg List.length hrest
        have h9 : 0 < (wdelta bias delta).length := by unfold wdelta; rw [digitsOf]; split <;> simp
        simp at this; omega
      have hlt : (pos : Int) < e.length := by omega
      have HQ := Lib.hid hq
      have HR := Lib.hid hr
      have HS := Lib.hid hs
      have HP' := Lib.hid hP'
      have HD := Lib.hid hd
      have OWN := Lib.hid own
      have BEL := Lib.hid bel
      have HREST := Lib.hid hrest
      obtain ⟨ao, cap, rfl⟩ : ∃ ao cap, u5 = .slice ao out.length cap := by
        rcases own.2 with ⟨hv, h0⟩ | ⟨g, cap, cur, hv, _⟩
        · exact ⟨none, 0, by rw [hv, h0]⟩
        · exact ⟨_, _, hv⟩
      clear hq hr hs hP' hd own bel hrest
      go_upto_block 2 with fail
      go_cut [8, 11] (fun iv pv w2 => w2 = wr ∧ iv = .int .i64 ((i + delta : Nat) : Int) ∧ ∃ pn : Nat, pv = .int .i64 pn ∧ pn ≤ e.length ∧ pos < pn ∧ rest2 = e.drop pn)
      case first =>
        go_wp2_with fail
        go_loopg [8, 11, 13, 14] ((digitsOf bias delta 1).length) (fun g iv pv wv kv w2 => ∃ ii wt p dl pn kk : Nat, iv = .int .i64 ii ∧ pv = .int .i64 pn ∧ (∃ wI : Int, wv = .int .i64 wI ∧ Hid (wI = (wt : Int))) ∧ kv = .int .i64 kk ∧ kk = 36 * p ∧ w2 = wr ∧ g = (digitsOf bias dl p).length ∧ pn ≤ e.length ∧ pos ≤ pn ∧ p ≤ pn + 1 ∧
          (digitsOf bias dl p).map letter ++ rest2 = e.drop pn ∧ Inn bias i delta ii wt p dl)
        case atStart => exact ⟨i, 1, 1, delta, pos, 36, rfl, rfl, ⟨1, rfl, Lib.hid rfl⟩, rfl, rfl, rfl, rfl, hpos, Nat.le_refl _, by omega, HREST.out, Inn.start _ _ _⟩
        case round =>
          obtain ⟨ii, wt, p, dl, pn, kk, rfl, rfl, ⟨wI, rfl, hwI⟩, rfl, hkk, rfl, rfl, hpn, hpp, hpp2, hdr, hI⟩ := hrel
          clear hlt hpos hpos2
          have key : ∃ d ds, digitsOf bias dl p = d :: ds ∧ d < 36 ∧ d * wt ≤ 68000000 ∧ ii ≤ 68000000 + 1000 ∧
              ((d < thr p bias ∧ ds = [] ∧ ii + d * wt = i + delta) ∨ (¬ d < thr p bias ∧ wt < 59652323 ∧ ∃ dl2, ds = digitsOf bias dl2 (p + 1) ∧ Inn bias i delta (ii + d * wt) (wt * (36 - thr p bias)) (p + 1) dl2)) := by
            have hii : ii ≤ 68000000 + 1000 := by have := hI.sum; have := HD.out; omega
            rw [digitsOf]
            split
            · rename_i h
              have := hI.last
              have := thr_le p bias
              have := HD.out
              exact ⟨dl, [], rfl, by omega, by have := hI.ge; omega, hii, .inl ⟨h, rfl, by assumption⟩⟩
            · rename_i h
              obtain ⟨n1, n2, n3⟩ := hI.next HD.out h
              have t1 := thr_le p bias
              have t2 := Nat.mod_lt (dl - thr p bias) (show 36 - thr p bias > 0 by omega)
              exact ⟨_, _, rfl, by omega, n1, hii, .inr ⟨by omega, n2, _, rfl, n3⟩⟩
          obtain ⟨d, ds, hds, hd36, hmul, hii, hcase⟩ := key
          clear hI
          rw [hds, List.map_cons, List.cons_append] at hdr
          have hpn2 : pn < e.length := by have := congrArg List.length hdr; simp at this; omega
          have hget : e[pn]'hpn2 = letter d ∧ ds.map letter ++ rest2 = e.drop (pn + 1) := by
            rw [List.drop_eq_getElem_cons hpn2] at hdr
            exact ⟨(List.cons.inj hdr).1.symm, (List.cons.inj hdr).2⟩
          obtain ⟨hg, hdr2⟩ := hget
          have HDR := Lib.hid hdr2
          have HDS := Lib.hid hds
          obtain ⟨y, hy⟩ : ∃ y, y = d * wt := ⟨_, rfl⟩
          rw [← hy] at hmul hcase
          have f1 : IntKind.i64.wrap ((d : Int) * wI) = (y : Int) := by
            have : (d : Int) * wI = (y : Int) := by rw [hy, hwI.out]; simp
            rw [this]; simp [IntKind.wrap, IntKind.bits, IntKind.signed]; omega
          have f2 : ((pn : Int) == (e.length : Int)) = false := by rw [beq_eq_false_iff_ne]; omega
          have hx : (e[pn]'hpn2).toNat = if d < 26 then 97 + d else 48 + (d - 26) := by rw [hg, letter_nat d hd36]
          have hkb : kk ≤ 40000 := by omega
          have HC := Lib.hid hcase
          have thk : thr p bias = if kk ≤ bias then 1 else if bias + 26 < kk then 26 else kk - bias := by
            unfold thr; rw [hkk]
            split
            · omega
            · split <;> omega
          have HTK := Lib.hid thk
          have HKK := Lib.hid hkk
          clear hdr hdr2 hds hg hcase hy thk hkk
          have hx3 : (97 ≤ (e[pn]'hpn2).toNat ∧ (e[pn]'hpn2).toNat ≤ 122 ∧ IntKind.u8.wrap (((e[pn]'hpn2).toNat : Int) - 97) = (d : Int)) ∨
              (48 ≤ (e[pn]'hpn2).toNat ∧ (e[pn]'hpn2).toNat ≤ 57 ∧ IntKind.u8.wrap (((e[pn]'hpn2).toNat : Int) - 48 + 26) = (d : Int)) := by
            by_cases h26 : d < 26
            · rw [if_pos h26] at hx
              refine .inl ⟨by omega, by omega, ?_⟩
              rw [hx]; simp [IntKind.wrap, IntKind.bits, IntKind.signed]; omega
            · rw [if_neg h26] at hx
              refine .inr ⟨by omega, by omega, ?_⟩
              rw [hx]; simp [IntKind.wrap, IntKind.bits, IntKind.signed]; omega
          clear hx
          rcases hx3 with ⟨hx1, hx2, gx⟩ | ⟨hx1, hx2, gx⟩
          · by_cases hk1 : (kk : Int) ≤ bias
            · have hc : thr p bias = 1 := by rw [HTK.out, if_pos (by omega)]
              by_cases hlast : (d : Int) < 1
              · have CC : Hid (ds = [] ∧ ii + y = i + delta) := by
                  have h := HC.out
                  rw [HTK.out] at h
                  rcases h with ⟨_, h1, h2⟩ | ⟨h0, _⟩
                  · exact Lib.hid ⟨h1, h2⟩
                  · exact absurd (show d < _ by rw [if_pos (by omega)] <;> omega) h0
                clear HC
                go_wp2_with fail
                go_meet
                obtain ⟨c1, c2⟩ := CC.out
                subst c1
                exact ⟨rfl, by rw [← c2]; rfl, pn + 1, rfl, by omega, by omega, by simpa using HDR.out⟩
              · have CC : Hid (wt < 59652323 ∧ ∃ dl2, ds = digitsOf bias dl2 (p + 1) ∧ Inn bias i delta (ii + y) (wt * 35) (p + 1) dl2) := by
                  have h := HC.out
                  rw [HTK.out] at h
                  rcases h with ⟨h0, _⟩ | ⟨_, h1, h2⟩
                  · exact absurd h0 (show ¬ d < _ by rw [if_pos (by omega)] <;> omega)
                  · refine Lib.hid ⟨h1, ?_⟩
                    obtain ⟨dl2, a1, a2⟩ := h2
                    exact ⟨dl2, a1, by rw [show 36 - _ = 35 by rw [if_pos (by omega)] <;> omega] at a2; exact a2⟩
                clear HC
                have hw1 : ¬ (59652323 : Int) ≤ wI := by have := CC.out.1; have := hwI.out; omega
                obtain ⟨zI, hz⟩ : ∃ zI : Int, zI = ((wt * 35 : Nat) : Int) := ⟨_, rfl⟩
                have f3 : IntKind.i64.wrap (wI * 35) = zI := by
                  have h1 := CC.out.1
                  have h2 : wt * 35 ≤ 59652323 * 36 := Nat.mul_le_mul (by omega) (by omega)
                  have h3 : wI * 35 = zI := by rw [hz, hwI.out]; simp
                  rw [h3]; simp [IntKind.wrap, IntKind.bits, IntKind.signed]; omega
                have HZ := Lib.hid hz
                clear hz
                go_wp2_with fail
                obtain ⟨_, dl2, c2, c3⟩ := CC.out
                go_roundg ((digitsOf bias dl2 (p + 1)).length)
                case measure => rw [HDS.out, c2]; simp
                case rel => exact ⟨ii + y, wt * 35, p + 1, dl2, pn + 1, kk + 36, by simp, by simp, ⟨zI, rfl, HZ⟩, by simp, by have := HKK.out; omega, rfl, rfl, by omega, by omega, by omega, by rw [← c2]; exact HDR.out, c3⟩
            · by_cases hk2 : (bias : Int) + 26 < kk
              · by_cases hlast : (d : Int) < 26
                · have CC : Hid (ds = [] ∧ ii + y = i + delta) := by
                    have h := HC.out
                    rw [HTK.out] at h
                    rcases h with ⟨_, h1, h2⟩ | ⟨h0, _⟩
                    · exact Lib.hid ⟨h1, h2⟩
                    · exact absurd (show d < _ by rw [if_neg (by omega), if_pos (by omega)] <;> omega) h0
                  clear HC
                  go_wp2_with fail
                  go_meet
                  obtain ⟨c1, c2⟩ := CC.out
                  subst c1
                  exact ⟨rfl, by rw [← c2]; rfl, pn + 1, rfl, by omega, by omega, by simpa using HDR.out⟩
                · have CC : Hid (wt < 59652323 ∧ ∃ dl2, ds = digitsOf bias dl2 (p + 1) ∧ Inn bias i delta (ii + y) (wt * 10) (p + 1) dl2) := by
                    have h := HC.out
                    rw [HTK.out] at h
                    rcases h with ⟨h0, _⟩ | ⟨_, h1, h2⟩
                    · exact absurd h0 (show ¬ d < _ by rw [if_neg (by omega), if_pos (by omega)] <;> omega)
                    · refine Lib.hid ⟨h1, ?_⟩
                      obtain ⟨dl2, a1, a2⟩ := h2
                      exact ⟨dl2, a1, by rw [show 36 - _ = 10 by rw [if_neg (by omega), if_pos (by omega)] <;> omega] at a2; exact a2⟩
                  clear HC
                  have hw1 : ¬ (59652323 : Int) ≤ wI := by have := CC.out.1; have := hwI.out; omega
                  obtain ⟨zI, hz⟩ : ∃ zI : Int, zI = ((wt * 10 : Nat) : Int) := ⟨_, rfl⟩
                  have f3 : IntKind.i64.wrap (wI * 10) = zI := by
                    have h1 := CC.out.1
                    have h2 : wt * 10 ≤ 59652323 * 36 := Nat.mul_le_mul (by omega) (by omega)
                    have h3 : wI * 10 = zI := by rw [hz, hwI.out]; simp
                    rw [h3]; simp [IntKind.wrap, IntKind.bits, IntKind.signed]; omega
                  have HZ := Lib.hid hz
                  clear hz
                  go_wp2_with fail
                  obtain ⟨_, dl2, c2, c3⟩ := CC.out
                  go_roundg ((digitsOf bias dl2 (p + 1)).length)
                  case measure => rw [HDS.out, c2]; simp
                  case rel => exact ⟨ii + y, wt * 10, p + 1, dl2, pn + 1, kk + 36, by simp, by simp, ⟨zI, rfl, HZ⟩, by simp, by have := HKK.out; omega, rfl, rfl, by omega, by omega, by omega, by rw [← c2]; exact HDR.out, c3⟩
              · by_cases hlast : (d : Int) < kk - bias
                · have CC : Hid (ds = [] ∧ ii + y = i + delta) := by
                    have h := HC.out
                    rw [HTK.out] at h
                    rcases h with ⟨_, h1, h2⟩ | ⟨h0, _⟩
                    · exact Lib.hid ⟨h1, h2⟩
                    · exact absurd (show d < _ by rw [if_neg (by omega), if_neg (by omega)] <;> omega) h0
                  clear HC
                  go_wp2_with fail
                  go_meet
                  obtain ⟨c1, c2⟩ := CC.out
                  subst c1
                  exact ⟨rfl, by rw [← c2]; rfl, pn + 1, rfl, by omega, by omega, by simpa using HDR.out⟩
                · have CC : Hid (wt < 59652323 ∧ ∃ dl2, ds = digitsOf bias dl2 (p + 1) ∧ Inn bias i delta (ii + y) (wt * (36 - (kk - bias))) (p + 1) dl2) := by
                    have h := HC.out
                    rw [HTK.out] at h
                    rcases h with ⟨h0, _⟩ | ⟨_, h1, h2⟩
                    · exact absurd h0 (show ¬ d < _ by rw [if_neg (by omega), if_neg (by omega)] <;> omega)
                    · refine Lib.hid ⟨h1, ?_⟩
                      obtain ⟨dl2, a1, a2⟩ := h2
                      exact ⟨dl2, a1, by rw [show 36 - _ = (36 - (kk - bias)) by rw [if_neg (by omega), if_neg (by omega)] <;> omega] at a2; exact a2⟩
                  clear HC
                  have hw1 : ¬ (59652323 : Int) ≤ wI := by have := CC.out.1; have := hwI.out; omega
                  obtain ⟨zI, hz⟩ : ∃ zI : Int, zI = ((wt * (36 - (kk - bias)) : Nat) : Int) := ⟨_, rfl⟩
                  have f3 : IntKind.i64.wrap (wI * (36 - ((kk : Int) - bias))) = zI := by
                    have h1 := CC.out.1
                    have h2 : wt * (36 - (kk - bias)) ≤ 59652323 * 36 := Nat.mul_le_mul (by omega) (by omega)
                    have h3 : wI * (36 - ((kk : Int) - bias)) = zI := by rw [hz, hwI.out]; rw [Int.natCast_mul]; congr 1; omega
                    rw [h3]; simp [IntKind.wrap, IntKind.bits, IntKind.signed]; omega
                  have HZ := Lib.hid hz
                  clear hz
                  go_wp2_with fail
                  obtain ⟨_, dl2, c2, c3⟩ := CC.out
                  go_roundg ((digitsOf bias dl2 (p + 1)).length)
                  case measure => rw [HDS.out, c2]; simp
                  case rel => exact ⟨ii + y, wt * (36 - (kk - bias)), p + 1, dl2, pn + 1, kk + 36, by simp, by simp, ⟨zI, rfl, HZ⟩, by simp, by have := HKK.out; omega, rfl, rfl, by omega, by omega, by omega, by rw [← c2]; exact HDR.out, c3⟩
          · by_cases hk1 : (kk : Int) ≤ bias
            · have hc : thr p bias = 1 := by rw [HTK.out, if_pos (by omega)]
              by_cases hlast : (d : Int) < 1
              · have CC : Hid (ds = [] ∧ ii + y = i + delta) := by
                  have h := HC.out
                  rw [HTK.out] at h
                  rcases h with ⟨_, h1, h2⟩ | ⟨h0, _⟩
                  · exact Lib.hid ⟨h1, h2⟩
                  · exact absurd (show d < _ by rw [if_pos (by omega)] <;> omega) h0
                clear HC
                go_wp2_with fail
                go_meet
                obtain ⟨c1, c2⟩ := CC.out
                subst c1
                exact ⟨rfl, by rw [← c2]; rfl, pn + 1, rfl, by omega, by omega, by simpa using HDR.out⟩
              · have CC : Hid (wt < 59652323 ∧ ∃ dl2, ds = digitsOf bias dl2 (p + 1) ∧ Inn bias i delta (ii + y) (wt * 35) (p + 1) dl2) := by
                  have h := HC.out
                  rw [HTK.out] at h
                  rcases h with ⟨h0, _⟩ | ⟨_, h1, h2⟩
                  · exact absurd h0 (show ¬ d < _ by rw [if_pos (by omega)] <;> omega)
                  · refine Lib.hid ⟨h1, ?_⟩
                    obtain ⟨dl2, a1, a2⟩ := h2
                    exact ⟨dl2, a1, by rw [show 36 - _ = 35 by rw [if_pos (by omega)] <;> omega] at a2; exact a2⟩
                clear HC
                have hw1 : ¬ (59652323 : Int) ≤ wI := by have := CC.out.1; have := hwI.out; omega
                obtain ⟨zI, hz⟩ : ∃ zI : Int, zI = ((wt * 35 : Nat) : Int) := ⟨_, rfl⟩
                have f3 : IntKind.i64.wrap (wI * 35) = zI := by
                  have h1 := CC.out.1
                  have h2 : wt * 35 ≤ 59652323 * 36 := Nat.mul_le_mul (by omega) (by omega)
                  have h3 : wI * 35 = zI := by rw [hz, hwI.out]; simp
                  rw [h3]; simp [IntKind.wrap, IntKind.bits, IntKind.signed]; omega
                have HZ := Lib.hid hz
                clear hz
                go_wp2_with fail
                obtain ⟨_, dl2, c2, c3⟩ := CC.out
                go_roundg ((digitsOf bias dl2 (p + 1)).length)
                case measure => rw [HDS.out, c2]; simp
                case rel => exact ⟨ii + y, wt * 35, p + 1, dl2, pn + 1, kk + 36, by simp, by simp, ⟨zI, rfl, HZ⟩, by simp, by have := HKK.out; omega, rfl, rfl, by omega, by omega, by omega, by rw [← c2]; exact HDR.out, c3⟩
            · by_cases hk2 : (bias : Int) + 26 < kk
              · by_cases hlast : (d : Int) < 26
                · have CC : Hid (ds = [] ∧ ii + y = i + delta) := by
                    have h := HC.out
                    rw [HTK.out] at h
                    rcases h with ⟨_, h1, h2⟩ | ⟨h0, _⟩
                    · exact Lib.hid ⟨h1, h2⟩
                    · exact absurd (show d < _ by rw [if_neg (by omega), if_pos (by omega)] <;> omega) h0
                  clear HC
                  go_wp2_with fail
                  go_meet
                  obtain ⟨c1, c2⟩ := CC.out
                  subst c1
                  exact ⟨rfl, by rw [← c2]; rfl, pn + 1, rfl, by omega, by omega, by simpa using HDR.out⟩
                · have CC : Hid (wt < 59652323 ∧ ∃ dl2, ds = digitsOf bias dl2 (p + 1) ∧ Inn bias i delta (ii + y) (wt * 10) (p + 1) dl2) := by
                    have h := HC.out
                    rw [HTK.out] at h
                    rcases h with ⟨h0, _⟩ | ⟨_, h1, h2⟩
                    · exact absurd h0 (show ¬ d < _ by rw [if_neg (by omega), if_pos (by omega)] <;> omega)
                    · refine Lib.hid ⟨h1, ?_⟩
                      obtain ⟨dl2, a1, a2⟩ := h2
                      exact ⟨dl2, a1, by rw [show 36 - _ = 10 by rw [if_neg (by omega), if_pos (by omega)] <;> omega] at a2; exact a2⟩
                  clear HC
                  have hw1 : ¬ (59652323 : Int) ≤ wI := by have := CC.out.1; have := hwI.out; omega
                  obtain ⟨zI, hz⟩ : ∃ zI : Int, zI = ((wt * 10 : Nat) : Int) := ⟨_, rfl⟩
                  have f3 : IntKind.i64.wrap (wI * 10) = zI := by
                    have h1 := CC.out.1
                    have h2 : wt * 10 ≤ 59652323 * 36 := Nat.mul_le_mul (by omega) (by omega)
                    have h3 : wI * 10 = zI := by rw [hz, hwI.out]; simp
                    rw [h3]; simp [IntKind.wrap, IntKind.bits, IntKind.signed]; omega
                  have HZ := Lib.hid hz
                  clear hz
                  go_wp2_with fail
                  obtain ⟨_, dl2, c2, c3⟩ := CC.out
                  go_roundg ((digitsOf bias dl2 (p + 1)).length)
                  case measure => rw [HDS.out, c2]; simp
                  case rel => exact ⟨ii + y, wt * 10, p + 1, dl2, pn + 1, kk + 36, by simp, by simp, ⟨zI, rfl, HZ⟩, by simp, by have := HKK.out; omega, rfl, rfl, by omega, by omega, by omega, by rw [← c2]; exact HDR.out, c3⟩
              · by_cases hlast : (d : Int) < kk - bias
                · have CC : Hid (ds = [] ∧ ii + y = i + delta) := by
                    have h := HC.out
                    rw [HTK.out] at h
                    rcases h with ⟨_, h1, h2⟩ | ⟨h0, _⟩
                    · exact Lib.hid ⟨h1, h2⟩
                    · exact absurd (show d < _ by rw [if_neg (by omega), if_neg (by omega)] <;> omega) h0
                  clear HC
                  go_wp2_with fail
                  go_meet
                  obtain ⟨c1, c2⟩ := CC.out
                  subst c1
                  exact ⟨rfl, by rw [← c2]; rfl, pn + 1, rfl, by omega, by omega, by simpa using HDR.out⟩
                · have CC : Hid (wt < 59652323 ∧ ∃ dl2, ds = digitsOf bias dl2 (p + 1) ∧ Inn bias i delta (ii + y) (wt * (36 - (kk - bias))) (p + 1) dl2) := by
                    have h := HC.out
                    rw [HTK.out] at h
                    rcases h with ⟨h0, _⟩ | ⟨_, h1, h2⟩
                    · exact absurd h0 (show ¬ d < _ by rw [if_neg (by omega), if_neg (by omega)] <;> omega)
                    · refine Lib.hid ⟨h1, ?_⟩
                      obtain ⟨dl2, a1, a2⟩ := h2
                      exact ⟨dl2, a1, by rw [show 36 - _ = (36 - (kk - bias)) by rw [if_neg (by omega), if_neg (by omega)] <;> omega] at a2; exact a2⟩
                  clear HC
                  have hw1 : ¬ (59652323 : Int) ≤ wI := by have := CC.out.1; have := hwI.out; omega
                  obtain ⟨zI, hz⟩ : ∃ zI : Int, zI = ((wt * (36 - (kk - bias)) : Nat) : Int) := ⟨_, rfl⟩
                  have f3 : IntKind.i64.wrap (wI * (36 - ((kk : Int) - bias))) = zI := by
                    have h1 := CC.out.1
                    have h2 : wt * (36 - (kk - bias)) ≤ 59652323 * 36 := Nat.mul_le_mul (by omega) (by omega)
                    have h3 : wI * (36 - ((kk : Int) - bias)) = zI := by rw [hz, hwI.out]; rw [Int.natCast_mul]; congr 1; omega
                    rw [h3]; simp [IntKind.wrap, IntKind.bits, IntKind.signed]; omega
                  have HZ := Lib.hid hz
                  clear hz
                  go_wp2_with fail
                  obtain ⟨_, dl2, c2, c3⟩ := CC.out
                  go_roundg ((digitsOf bias dl2 (p + 1)).length)
                  case measure => rw [HDS.out, c2]; simp
                  case rel => exact ⟨ii + y, wt * (36 - (kk - bias)), p + 1, dl2, pn + 1, kk + 36, by simp, by simp, ⟨zI, rfl, HZ⟩, by simp, by have := HKK.out; omega, rfl, rfl, by omega, by omega, by omega, by rw [← c2]; exact HDR.out, c3⟩
      case rest =>
        obtain ⟨rfl, rfl, pn, rfl, h1, h2, h3⟩ := hcut
        have hd := HD.out
        have hm : i + delta - i = delta := by omega
        have w1' : IntKind.i64.wrap (((i + delta : Nat) : Int) - (i : Int)) = (delta : Int) := by
          rw [show ((i + delta : Nat) : Int) - (i : Int) = (delta : Int) by omega]; simp [IntKind.wrap, IntKind.bits, IntKind.signed]; omega
        have HPN := Lib.hid (And.intro h1 (And.intro h2 h3))
        clear h1 h2 h3 hlt hpos hpos2 hm
        obtain ⟨L, hL⟩ : ∃ L, L = out.length := ⟨_, rfl⟩
        have HL := Lib.hid hL
        rw [← hL] at hi hlen ⊢
        clear hL
        obtain ⟨I, hI⟩ : ∃ I : Int, I = ((i + delta : Nat) : Int) := ⟨_, rfl⟩
        rw [← hI] at w1' ⊢
        have HI := Lib.hid hI
        clear hI
        have QQ : Hid (I.tdiv ((L : Int) + 1) = (q : Int) ∧ I.tmod ((L : Int) + 1) = (r : Int)) := Lib.hid (by
          have h1 := HQ.out
          have h2 := HR.out
          rw [← HL.out] at h1 h2
          rw [HI.out, Int.tdiv_eq_ediv_of_nonneg (by omega), Int.tmod_eq_emod_of_nonneg (by omega), h1]
          have e1 : (q * (L + 1) + r) / (L + 1) = q := by rw [Nat.mul_comm, Nat.mul_add_div (by omega), Nat.div_eq_of_lt (by omega)]; rfl
          have e2 : (q * (L + 1) + r) % (L + 1) = r := by rw [Nat.mul_comm, Nat.mul_add_mod, Nat.mod_eq_of_lt (by omega)]
          have e3 : ((L : Int) + 1) = ((L + 1 : Nat) : Int) := by omega
          rw [e3]
          exact ⟨by rw [← Int.natCast_ediv, e1], by rw [← Int.natCast_emod, e2]⟩)
        by_cases hi0 : i = 0
        · have hib : ((i : Int) == 0) = true := by simp [hi0]
          have HI0 := Lib.hid hi0
          clear hi0
          obtain ⟨d1, hd1⟩ : ∃ d1, d1 = delta / 700 := ⟨_, rfl⟩
          have q1 : (delta : Int).tdiv 700 = (d1 : Int) := by rw [Int.tdiv_eq_ediv_of_nonneg (by omega), hd1]; rfl
          have q1' : (delta : Int) / 700 = (d1 : Int) := by rw [hd1]; rfl
          obtain ⟨d2, hd2⟩ : ∃ d2, d2 = d1 / (L + 1) := ⟨_, rfl⟩
          have q2 : (d1 : Int).tdiv ((L : Int) + 1) = (d2 : Int) := by rw [Int.tdiv_eq_ediv_of_nonneg (by omega), hd2]; rfl
          have hb1 : d1 ≤ 68000000 := by omega
          have hb22 : d2 ≤ 68000000 := by rw [hd2]; exact Nat.le_trans (Nat.div_le_self _ _) hb1
          have HAD : Hid (adaptD delta (L + 1) true = d1 + d2) := Lib.hid (by unfold adaptD; rw [if_pos rfl, ← hd1, ← hd2])
          have q3 : (((L : Int) + 1) == 0) = false := by rw [beq_eq_false_iff_ne]; omega
          clear hd1 hd2
          have HADL : Hid (adaptK (d1 + d2) 0 ≤ 400) := Lib.hid (by have h := adapt_le delta (L + 1) true hd (by omega); unfold adapt at h; rw [HAD.out] at h; exact h)
          go_wp2_with fail
          go_loopg [18, 21] (d1 + d2) (fun g dv kv w2 => ∃ kk : Nat, dv = .int .i64 g ∧ kv = .int .i64 kk ∧ w2 = wc ∧ g ≤ 136000000 ∧ adaptK g kk = adaptK (d1 + d2) 0 ∧ kk ≤ 400)
          case atStart => exact ⟨0, by simp, rfl, rfl, by omega, rfl, by omega⟩
          case round =>
            obtain ⟨kk, rfl, rfl, rfl, hx, hak, hk4⟩ := hrel
            obtain ⟨x, hxg⟩ : ∃ x, x = gk := ⟨_, rfl⟩
            rw [← hxg] at hx hak ⊢
            have HXG := Lib.hid hxg
            clear hxg
            have HAK := Lib.hid hak
            clear hak
            by_cases hx5 : 455 < x
            · have hk' : kk + 36 ≤ 400 := by
                have h1 := HAK.out
                rw [adaptK, if_pos hx5] at h1
                have := adaptK_ge (x / 35) (kk + 36)
                have := HADL.out
                omega
              have HAK2 : Hid (adaptK (x / 35) (kk + 36) = adaptK (d1 + d2) 0) := Lib.hid (by
                have h1 := HAK.out
                rw [adaptK, if_pos hx5] at h1
                exact h1)
              have q4 : (x : Int).tdiv 35 = ((x / 35 : Nat) : Int) := by rw [Int.tdiv_eq_ediv_of_nonneg (by omega)]; rfl
              have hx5' : (455 : Int) < x := by omega
              obtain ⟨x2, hx2⟩ : ∃ x2, x2 = x / 35 := ⟨_, rfl⟩
              rw [← hx2] at HAK2 q4
              have q4' : (x : Int) / 35 = (x2 : Int) := by rw [hx2]; rfl
              have hx3 : x2 < x := by omega
              clear hx2 HAK
              go_wp2_with fail
              go_roundg x2
              case measure => rw [← HXG.out]; exact hx3
              case rel => exact ⟨kk + 36, rfl, by simp, rfl, by omega, HAK2.out, hk'⟩
            · have hx5' : ¬ (455 : Int) < x := by omega
              obtain ⟨y, hy⟩ : ∃ y, y = 36 * x / (x + 38) := ⟨_, rfl⟩
              have hy36 : y ≤ 36 := by rw [hy]; exact Nat.div_le_of_le_mul (by rw [Nat.mul_comm]; exact Nat.mul_le_mul (by omega) (Nat.le_refl _))
              have q5 : (36 * (x : Int)).tdiv ((x : Int) + 38) = (y : Int) := by rw [Int.tdiv_eq_ediv_of_nonneg (by omega), hy]; rfl
              have q5' : (((x : Int) + 38) == 0) = false := by rw [beq_eq_false_iff_ne]; omega
              have HB : Hid (adapt delta (L + 1) true = kk + y) := Lib.hid (by
                have h1 := HAK.out
                rw [adaptK, if_neg hx5, ← hy] at h1
                unfold adapt; rw [HAD.out, ← h1])
              have HKY : Hid (kk + y ≤ 400) := Lib.hid (by have h := adapt_le delta (L + 1) true hd (by omega); rw [HB.out] at h; exact h)
              clear HAK hy hx5
              have q6 : I.tdiv ((L : Int) + 1) = (q : Int) := QQ.out.1
              have q7 : I.tmod ((L : Int) + 1) = (r : Int) := QQ.out.2
              have hnq : ¬ (1114111 : Int) < (n : Int) + (q : Int) := by have h := HS.out; unfold scalar at h; omega
              have hnq2 : n + q ≤ 1114111 := by omega
              have VR : Hid (∀ w, Calls Tryz.prog 128 #[.int .i32 ((n : Int) + (q : Int))] w fun e w' => e = .returned (.bool true) ∧ w = w') := Lib.hid fun w => by
                have h := Tryz.utf8_ValidRune ((n : Int) + (q : Int)) w
                rw [show Lib.validRune ((n : Int) + (q : Int)) = true from valid_of HS.out] at h
                exact h.mono fun _ _ h => ⟨h.1, h.2.symm⟩
              have own0 := OWN.out.alloc (.cells #[.int .i32 0] t32)
              rw [← HL.out] at own0
              have p1 := Lib.hid (one32 wr)
              have p3 : L + 1 ≤ maxLen := by unfold maxLen; omega
              have p4 : (L + 1) * 4 ≤ 140737488355328 := by omega
              have p5 : w1.heap.size ≤ (wr.alloc (.cells #[.int .i32 0] t32)).heap.size := by have := BEL.out.size; simp; omega
              go_wp2_with (first
                | (go_at_call 128; refine (VR.out _).mono ?_; rintro en w9 ⟨rfl, rfl⟩)
                | (at_builtin; refine wpList_append_own _ rfl _ _ 135 rfl w1.heap.size t32 i0 (.int .i32 0) 1 4 Tryz.underlying135 ui uz0 uz1 uz2 rfl (by decide) _ _ _ rfl own0 ⟨wr.heap.size, 0, none⟩ 1 1 [.int .i32 0] rfl rfl p1.out (by intro u hu; simp at hu; subst hu; rfl) p3 p4 p5 ?_))
              intro v' w2 own2 hgrow _
              obtain ⟨g, cap', cur, hv, hBg, hg2, hcc, hcm, hcs, htk⟩ : ∃ g cap cur, v' = .slice (some ⟨g, 0, none⟩) (L + 1) cap ∧ w1.heap.size ≤ g ∧ w2.heap[g]? = some (.cells cur t32 (0, 0)) ∧ L + 1 ≤ cap ∧ cap ≤ maxLen ∧ cur.size = cap * 1 ∧ cur.toList.take ((L + 1) * 1) = rv32 out ++ [.int .i32 0] := by
                rcases own2.2 with ⟨_, h0⟩ | h0
                · omega
                · exact h0
              subst hv
              have hb2' : Below w1.heap.size w1 w2 := (BEL.out.alloc BEL.out.size _).grown hgrow (by have := BEL.out.size; simp; omega) (row_kind2 own0)
              have hr' : r ≤ L := by rw [HL.out]; exact HR.out
              obtain ⟨cl, rfl⟩ : ∃ cl : List Value, cur = cl.toArray := ⟨cur.toList, by simp⟩
              have hcl : L + 1 ≤ cl.length := by simp at hcs; omega
              obtain ⟨cs, hcs2⟩ : ∃ cs, cs = (cl.drop r).take (L - r) := ⟨_, rfl⟩
              have hcsl : cs.length = L - r := by rw [hcs2]; simp; omega
              have hsrc : ∀ (w : World), w.heap[g]? = some (.cells cl.toArray t32 (0, 0)) → ∀ j v, cs[j]? = some v → w.cell? ((⟨g, r, none⟩ : Addr).add j) = some v := by
                intro w hw j v hj
                rw [hcs2, List.getElem?_take] at hj
                split at hj
                · rw [List.getElem?_drop] at hj
                  rw [show ((⟨g, r, none⟩ : Addr).add j) = ⟨g, r + j, none⟩ from by simp [Addr.add], cellAt hw]
                  simpa using hj
                · cases hj
              have htk2 : cl.take (L + 1) = rv32 out ++ [.int .i32 0] := by simpa using htk
              have hrl : (rv32 out).length = L := by rw [HL.out]; simp [rv32]
              have htk3 : cl.take L = rv32 out := by
                have := congrArg (List.take L) htk2
                rw [List.take_take, List.take_append_of_le_length (by omega), List.take_of_length_le (l := rv32 out) (by omega)] at this
                simpa using this
              have hcs3 : cs = (rv32 out).drop r := by rw [hcs2, ← htk3, List.drop_take]
              have h1c : ∀ v ∈ cs, v.oneCell' = true := by
                intro v hv
                rw [hcs3] at hv
                obtain ⟨c, _, rfl⟩ := List.mem_map.1 (List.mem_of_mem_drop hv)
                rfl
              clear own0 own2 p1 p3 p4 p5 hgrow VR
              have HSRC := Lib.hid hsrc
              have HB2 := Lib.hid hb2'
              have hcu := copy_size
              obtain ⟨r1, hr1⟩ : ∃ r1, r1 = r + 1 := ⟨_, rfl⟩
              have hw9 : IntKind.i64.wrap ((r : Int) + 1) = (r1 : Int) := by
                rw [show (r : Int) + 1 = (r1 : Int) by omega]; simp [IntKind.wrap, IntKind.bits, IntKind.signed]; omega
              have hr2 : (r1 : Int) ≤ (L : Int) + 1 := by omega
              have hr3 : (r : Int) ≤ (L : Int) + 1 := by omega
              have hcr : ¬ cap' = r := by omega
              have hfit : r1 + cs.length ≤ cl.length := by omega
              have hmin : cs.length = Nat.min (L + 1 - r) (L + 1 - r1) := by rw [hcsl]; show _ = min _ _; omega
              have hdp : 0 < cs.length → (if cap' = r1 then some (⟨g, 0, none⟩ : Addr) else some ⟨g, r1, none⟩) = some ⟨g, r1, none⟩ := fun h => if_neg (by omega)
              have HDP := Lib.hid hdp
              have HR1 := Lib.hid hr1
              have HTK3 := Lib.hid htk3
              have HCS3 := Lib.hid hcs3
              clear hsrc hb2' htk htk2 htk3 hcs2 hcs3 hdp hr1
              go_wp2_with fail
              go_region_law (refine step_copy_splice rfl _ _ 135 135 rfl t32 Tryz.underlying135 hcu (if cap' = r1 then some (⟨g, 0, none⟩ : Addr) else some ⟨g, r1, none⟩) (some ⟨g, r, none⟩) (L + 1 - r1) (cap' - r1) (L + 1 - r) (cap' - r) (by simp [Act.eval, Act.put]) (by simp [Act.eval, Act.put]) g r1 cl t32 hg2 cs hmin (fun h => ⟨HDP.out h, _, rfl, HSRC.out _ hg2⟩) hfit h1c w1.heap.size w1 (by first | exact HB2.out | exact HB2.out.drew) hBg ?_; intro w4 hg4 hb4)
              have hsl : (splice cl r1 cs).length = cl.length := length_splice _ _ _ hfit
              have hg4o := hg4.out
              have c4 : ∃ v4, w4.cell? ⟨g, r, none⟩ = some v4 := ⟨(splice cl r1 cs)[r]'(by omega), by rw [cellAt hg4o]; simp⟩
              have f4 : w4.frozen? ⟨g, r, none⟩ = false := Lib.frozen_of_heap hg4o r
              obtain ⟨v4, c4⟩ := c4
              have hrl2 : (r : Int) < (L : Int) + 1 := by omega
              have HG5 : Hid ((w4.setCell ⟨g, r, none⟩ (.int .i32 ((n : Int) + (q : Int)))).ownsRow w1.heap.size t32 1 (.slice (some ⟨g, 0, none⟩) (L + 1) cap') (insAt out r (n + q)).length (rv32 (insAt out r (n + q)))) := by
                have hln : (insAt out r (n + q)).length = L + 1 := by rw [insAt_len _ _ _ (by rw [← HL.out]; exact hr'), HL.out]
                refine Lib.hid ⟨by simp [rv32], .inr ⟨g, cap', _, by rw [hln], hBg, setCell_heap hg4o r _, by rw [hln]; exact hcc, hcm, by simp [hsl] at hcs ⊢; omega, ?_⟩⟩
                have := ins_row cl out r (n + q) L HTK3.out HL.out hr' hcl
                rw [← HR1.out, ← HCS3.out] at this
                rw [hln]
                simpa using this
              have HB5 : Hid (Below w1.heap.size w1 (w4.setCell ⟨g, r, none⟩ (.int .i32 ((n : Int) + (q : Int))))) := Lib.hid (hb4.setCell (p := ⟨g, r, none⟩) hBg _)
              have HPP : Hid (Pun (r + 1) (n + q) (kk + y) (insAt out r (n + q)) rest2 fin) := Lib.hid (by
                have h := HP'.out
                rw [← HL.out, show decide (i = 0) = true from decide_eq_true HI0.out, HB.out] at h
                exact h)
              clear hg4o hb4 hg4 hsl hg2 h1c hmin
              go_wp2
              go_roundw
              case measure => have := HPN.out; simp [intOf]; omega
              case rel => exact ⟨r + 1, n + q, kk + y, pn, insAt out r (n + q), rest2, by rw [HR1.out], by simp, by simp, rfl, HPN.out.1, HPN.out.2.2, HPP.out, by rw [insAt_len _ _ _ (by rw [← HL.out]; exact hr'), ← HL.out]; omega, hnq2, HKY.out, HG5.out, HB5.out⟩
        · have hib : ((i : Int) == 0) = false := by rw [beq_eq_false_iff_ne]; omega
          have HI0 := Lib.hid hi0
          clear hi0
          obtain ⟨d1, hd1⟩ : ∃ d1, d1 = delta / 2 := ⟨_, rfl⟩
          have q1 : (delta : Int).tdiv 2 = (d1 : Int) := by rw [Int.tdiv_eq_ediv_of_nonneg (by omega), hd1]; rfl
          have q1' : (delta : Int) / 2 = (d1 : Int) := by rw [hd1]; rfl
          obtain ⟨d2, hd2⟩ : ∃ d2, d2 = d1 / (L + 1) := ⟨_, rfl⟩
          have q2 : (d1 : Int).tdiv ((L : Int) + 1) = (d2 : Int) := by rw [Int.tdiv_eq_ediv_of_nonneg (by omega), hd2]; rfl
          have hb1 : d1 ≤ 68000000 := by omega
          have hb22 : d2 ≤ 68000000 := by rw [hd2]; exact Nat.le_trans (Nat.div_le_self _ _) hb1
          have HAD : Hid (adaptD delta (L + 1) false = d1 + d2) := Lib.hid (by unfold adaptD; rw [if_neg (by decide), ← hd1, ← hd2])
          have q3 : (((L : Int) + 1) == 0) = false := by rw [beq_eq_false_iff_ne]; omega
          clear hd1 hd2
          have HADL : Hid (adaptK (d1 + d2) 0 ≤ 400) := Lib.hid (by have h := adapt_le delta (L + 1) false hd (by omega); unfold adapt at h; rw [HAD.out] at h; exact h)
          go_wp2_with fail
          go_loopg [18, 21] (d1 + d2) (fun g dv kv w2 => ∃ kk : Nat, dv = .int .i64 g ∧ kv = .int .i64 kk ∧ w2 = wc ∧ g ≤ 136000000 ∧ adaptK g kk = adaptK (d1 + d2) 0 ∧ kk ≤ 400)
          case atStart => exact ⟨0, by simp, rfl, rfl, by omega, rfl, by omega⟩
          case round =>
            obtain ⟨kk, rfl, rfl, rfl, hx, hak, hk4⟩ := hrel
            obtain ⟨x, hxg⟩ : ∃ x, x = gk := ⟨_, rfl⟩
            rw [← hxg] at hx hak ⊢
            have HXG := Lib.hid hxg
            clear hxg
            have HAK := Lib.hid hak
            clear hak
            by_cases hx5 : 455 < x
            · have hk' : kk + 36 ≤ 400 := by
                have h1 := HAK.out
                rw [adaptK, if_pos hx5] at h1
                have := adaptK_ge (x / 35) (kk + 36)
                have := HADL.out
                omega
              have HAK2 : Hid (adaptK (x / 35) (kk + 36) = adaptK (d1 + d2) 0) := Lib.hid (by
                have h1 := HAK.out
                rw [adaptK, if_pos hx5] at h1
                exact h1)
              have q4 : (x : Int).tdiv 35 = ((x / 35 : Nat) : Int) := by rw [Int.tdiv_eq_ediv_of_nonneg (by omega)]; rfl
              have hx5' : (455 : Int) < x := by omega
              obtain ⟨x2, hx2⟩ : ∃ x2, x2 = x / 35 := ⟨_, rfl⟩
              rw [← hx2] at HAK2 q4
              have q4' : (x : Int) / 35 = (x2 : Int) := by rw [hx2]; rfl
              have hx3 : x2 < x := by omega
              clear hx2 HAK
              go_wp2_with fail
              go_roundg x2
              case measure => rw [← HXG.out]; exact hx3
              case rel => exact ⟨kk + 36, rfl, by simp, rfl, by omega, HAK2.out, hk'⟩
            · have hx5' : ¬ (455 : Int) < x := by omega
              obtain ⟨y, hy⟩ : ∃ y, y = 36 * x / (x + 38) := ⟨_, rfl⟩
              have hy36 : y ≤ 36 := by rw [hy]; exact Nat.div_le_of_le_mul (by rw [Nat.mul_comm]; exact Nat.mul_le_mul (by omega) (Nat.le_refl _))
              have q5 : (36 * (x : Int)).tdiv ((x : Int) + 38) = (y : Int) := by rw [Int.tdiv_eq_ediv_of_nonneg (by omega), hy]; rfl
              have q5' : (((x : Int) + 38) == 0) = false := by rw [beq_eq_false_iff_ne]; omega
              have HB : Hid (adapt delta (L + 1) false = kk + y) := Lib.hid (by
                have h1 := HAK.out
                rw [adaptK, if_neg hx5, ← hy] at h1
                unfold adapt; rw [HAD.out, ← h1])
              have HKY : Hid (kk + y ≤ 400) := Lib.hid (by have h := adapt_le delta (L + 1) false hd (by omega); rw [HB.out] at h; exact h)
              clear HAK hy hx5
              have q6 : I.tdiv ((L : Int) + 1) = (q : Int) := QQ.out.1
              have q7 : I.tmod ((L : Int) + 1) = (r : Int) := QQ.out.2
              have hnq : ¬ (1114111 : Int) < (n : Int) + (q : Int) := by have h := HS.out; unfold scalar at h; omega
              have hnq2 : n + q ≤ 1114111 := by omega
              have VR : Hid (∀ w, Calls Tryz.prog 128 #[.int .i32 ((n : Int) + (q : Int))] w fun e w' => e = .returned (.bool true) ∧ w = w') := Lib.hid fun w => by
                have h := Tryz.utf8_ValidRune ((n : Int) + (q : Int)) w
                rw [show Lib.validRune ((n : Int) + (q : Int)) = true from valid_of HS.out] at h
                exact h.mono fun _ _ h => ⟨h.1, h.2.symm⟩
              have own0 := OWN.out.alloc (.cells #[.int .i32 0] t32)
              rw [← HL.out] at own0
              have p1 := Lib.hid (one32 wr)
              have p3 : L + 1 ≤ maxLen := by unfold maxLen; omega
              have p4 : (L + 1) * 4 ≤ 140737488355328 := by omega
              have p5 : w1.heap.size ≤ (wr.alloc (.cells #[.int .i32 0] t32)).heap.size := by have := BEL.out.size; simp; omega
              go_wp2_with (first
                | (go_at_call 128; refine (VR.out _).mono ?_; rintro en w9 ⟨rfl, rfl⟩)
                | (at_builtin; refine wpList_append_own _ rfl _ _ 135 rfl w1.heap.size t32 i0 (.int .i32 0) 1 4 Tryz.underlying135 ui uz0 uz1 uz2 rfl (by decide) _ _ _ rfl own0 ⟨wr.heap.size, 0, none⟩ 1 1 [.int .i32 0] rfl rfl p1.out (by intro u hu; simp at hu; subst hu; rfl) p3 p4 p5 ?_))
              intro v' w2 own2 hgrow _
              obtain ⟨g, cap', cur, hv, hBg, hg2, hcc, hcm, hcs, htk⟩ : ∃ g cap cur, v' = .slice (some ⟨g, 0, none⟩) (L + 1) cap ∧ w1.heap.size ≤ g ∧ w2.heap[g]? = some (.cells cur t32 (0, 0)) ∧ L + 1 ≤ cap ∧ cap ≤ maxLen ∧ cur.size = cap * 1 ∧ cur.toList.take ((L + 1) * 1) = rv32 out ++ [.int .i32 0] := by
                rcases own2.2 with ⟨_, h0⟩ | h0
                · omega
                · exact h0
              subst hv
              have hb2' : Below w1.heap.size w1 w2 := (BEL.out.alloc BEL.out.size _).grown hgrow (by have := BEL.out.size; simp; omega) (row_kind2 own0)
              have hr' : r ≤ L := by rw [HL.out]; exact HR.out
              obtain ⟨cl, rfl⟩ : ∃ cl : List Value, cur = cl.toArray := ⟨cur.toList, by simp⟩
              have hcl : L + 1 ≤ cl.length := by simp at hcs; omega
              obtain ⟨cs, hcs2⟩ : ∃ cs, cs = (cl.drop r).take (L - r) := ⟨_, rfl⟩
              have hcsl : cs.length = L - r := by rw [hcs2]; simp; omega
              have hsrc : ∀ (w : World), w.heap[g]? = some (.cells cl.toArray t32 (0, 0)) → ∀ j v, cs[j]? = some v → w.cell? ((⟨g, r, none⟩ : Addr).add j) = some v := by
                intro w hw j v hj
                rw [hcs2, List.getElem?_take] at hj
                split at hj
                · rw [List.getElem?_drop] at hj
                  rw [show ((⟨g, r, none⟩ : Addr).add j) = ⟨g, r + j, none⟩ from by simp [Addr.add], cellAt hw]
                  simpa using hj
                · cases hj
              have htk2 : cl.take (L + 1) = rv32 out ++ [.int .i32 0] := by simpa using htk
              have hrl : (rv32 out).length = L := by rw [HL.out]; simp [rv32]
              have htk3 : cl.take L = rv32 out := by
                have := congrArg (List.take L) htk2
                rw [List.take_take, List.take_append_of_le_length (by omega), List.take_of_length_le (l := rv32 out) (by omega)] at this
                simpa using this
              have hcs3 : cs = (rv32 out).drop r := by rw [hcs2, ← htk3, List.drop_take]
              have h1c : ∀ v ∈ cs, v.oneCell' = true := by
                intro v hv
                rw [hcs3] at hv
                obtain ⟨c, _, rfl⟩ := List.mem_map.1 (List.mem_of_mem_drop hv)
                rfl
              clear own0 own2 p1 p3 p4 p5 hgrow VR
              have HSRC := Lib.hid hsrc
              have HB2 := Lib.hid hb2'
              have hcu := copy_size
              obtain ⟨r1, hr1⟩ : ∃ r1, r1 = r + 1 := ⟨_, rfl⟩
              have hw9 : IntKind.i64.wrap ((r : Int) + 1) = (r1 : Int) := by
                rw [show (r : Int) + 1 = (r1 : Int) by omega]; simp [IntKind.wrap, IntKind.bits, IntKind.signed]; omega
              have hr2 : (r1 : Int) ≤ (L : Int) + 1 := by omega
              have hr3 : (r : Int) ≤ (L : Int) + 1 := by omega
              have hcr : ¬ cap' = r := by omega
              have hfit : r1 + cs.length ≤ cl.length := by omega
              have hmin : cs.length = Nat.min (L + 1 - r) (L + 1 - r1) := by rw [hcsl]; show _ = min _ _; omega
              have hdp : 0 < cs.length → (if cap' = r1 then some (⟨g, 0, none⟩ : Addr) else some ⟨g, r1, none⟩) = some ⟨g, r1, none⟩ := fun h => if_neg (by omega)
              have HDP := Lib.hid hdp
              have HR1 := Lib.hid hr1
              have HTK3 := Lib.hid htk3
              have HCS3 := Lib.hid hcs3
              clear hsrc hb2' htk htk2 htk3 hcs2 hcs3 hdp hr1
              go_wp2_with fail
              go_region_law (refine step_copy_splice rfl _ _ 135 135 rfl t32 Tryz.underlying135 hcu (if cap' = r1 then some (⟨g, 0, none⟩ : Addr) else some ⟨g, r1, none⟩) (some ⟨g, r, none⟩) (L + 1 - r1) (cap' - r1) (L + 1 - r) (cap' - r) (by simp [Act.eval, Act.put]) (by simp [Act.eval, Act.put]) g r1 cl t32 hg2 cs hmin (fun h => ⟨HDP.out h, _, rfl, HSRC.out _ hg2⟩) hfit h1c w1.heap.size w1 (by first | exact HB2.out | exact HB2.out.drew) hBg ?_; intro w4 hg4 hb4)
              have hsl : (splice cl r1 cs).length = cl.length := length_splice _ _ _ hfit
              have hg4o := hg4.out
              have c4 : ∃ v4, w4.cell? ⟨g, r, none⟩ = some v4 := ⟨(splice cl r1 cs)[r]'(by omega), by rw [cellAt hg4o]; simp⟩
              have f4 : w4.frozen? ⟨g, r, none⟩ = false := Lib.frozen_of_heap hg4o r
              obtain ⟨v4, c4⟩ := c4
              have hrl2 : (r : Int) < (L : Int) + 1 := by omega
              have HG5 : Hid ((w4.setCell ⟨g, r, none⟩ (.int .i32 ((n : Int) + (q : Int)))).ownsRow w1.heap.size t32 1 (.slice (some ⟨g, 0, none⟩) (L + 1) cap') (insAt out r (n + q)).length (rv32 (insAt out r (n + q)))) := by
                have hln : (insAt out r (n + q)).length = L + 1 := by rw [insAt_len _ _ _ (by rw [← HL.out]; exact hr'), HL.out]
                refine Lib.hid ⟨by simp [rv32], .inr ⟨g, cap', _, by rw [hln], hBg, setCell_heap hg4o r _, by rw [hln]; exact hcc, hcm, by simp [hsl] at hcs ⊢; omega, ?_⟩⟩
                have := ins_row cl out r (n + q) L HTK3.out HL.out hr' hcl
                rw [← HR1.out, ← HCS3.out] at this
                rw [hln]
                simpa using this
              have HB5 : Hid (Below w1.heap.size w1 (w4.setCell ⟨g, r, none⟩ (.int .i32 ((n : Int) + (q : Int))))) := Lib.hid (hb4.setCell (p := ⟨g, r, none⟩) hBg _)
              have HPP : Hid (Pun (r + 1) (n + q) (kk + y) (insAt out r (n + q)) rest2 fin) := Lib.hid (by
                have h := HP'.out
                rw [← HL.out, show decide (i = 0) = false from decide_eq_false HI0.out, HB.out] at h
                exact h)
              clear hg4o hb4 hg4 hsl hg2 h1c hmin
              go_wp2
              go_roundw
              case measure => have := HPN.out; simp [intOf]; omega
              case rel => exact ⟨r + 1, n + q, kk + y, pn, insAt out r (n + q), rest2, by rw [HR1.out], by simp, by simp, rfl, HPN.out.1, HPN.out.2.2, HPP.out, by rw [insAt_len _ _ _ (by rw [← HL.out]; exact hr'), ← HL.out]; omega, hnq2, HKY.out, HG5.out, HB5.out⟩
end Go.Proofs.YtidokamjbglkbaaGreatDoor

