/- readFull over the door's reader: where the buffer grows. -/
import Derived.Test.YtdooimdefmegaaaDoorGvRs
import Derived.Deep.Cut
namespace Go.Proofs.YtdooimdefmegaaaDoor.Given
open Go.RowKit Go.Proofs.YtdooimdefmegaaaDoorW.PrintWords

set_option maxRecDepth 100000 in
set_option maxHeartbeats 40000000 in
theorem rf_grow (B R g n room : Nat) (P : List ByteArray) (a0 : Addr) (t0 : TypeId) (E1 : Value) (w : World) (hr : Rd w R g P) (hb : Bts w g (List.replicate room 0)) (hn : room < n) (hn2 : 65536 < n) (hn3 : n ≤ 1099511627776) (hP : P.length ≤ 1099511627776) (hRg : R ≠ g) (hE : w.cell? ⟨0, 0, none⟩ = some (.iface t0 (.pointer (some a0)))) (hE1 : w.cell? ⟨1, 0, none⟩ = some E1) (hR0 : 1 < R) (hg0 : 1 < g) (hRl : R < w.heap.size)
    (hE1i : ∃ t u, E1 = .iface t u) (hq : ∀ w', (binOp .eql 38 (.iface t0 (.pointer (some a0))) (.iface t0 (.pointer (some a0)))).run Tryd.prog w' = .ok (.bool true) w')
    (hq1 : ∀ w', Below B w w' → (binOp .eql 38 E1 (.iface t0 (.pointer (some a0)))).run Tryd.prog w' = .ok (.bool false) w') (hBR : B ≤ R) (hBg : B ≤ g) (hB : B ≤ w.heap.size) (hB2 : 1 < B) :
    Calls Tryd.prog 13 #[.iface 43 (.pointer (some ⟨R, 0, none⟩)), .slice (some ⟨g, 0, none⟩) 0 room, .int .i64 n] w (RfPost B (flat P) room n w) := by
  have g1 : ((n : Int) ≤ (room : Int)) = False := eq_false (by omega)
  have g3 : (n ≤ room) = False := eq_false (by omega)
  have g5 : ((n : Int) ≤ 65536) = False := eq_false (by omega)
  have hstart : Aside0 (Buf B R n (room + n) (flat P) P w w (.slice (some ⟨g, 0, none⟩) 0 room)) := ⟨g, 0, room, P, List.replicate room 0, rfl, by omega, hr, Nat.le_refl _, by simp, hb, by simp, by simp, hBg, fun e => hRg e.symm, hg0, Below.refl _ _, hRl, by omega, by omega, by omega⟩
  obtain ⟨t1, u1, rfl⟩ := hE1i
  have HRN := Aside0.mk (And.intro hn (And.intro hn2 hn3))
  have H0 := Aside0.mk hE
  have H1 := Aside0.mk hE1
  have HQ1 := Aside0.mk hq1
  have HQ := Aside0.mk hq
  clear hr hb hE hE1 hq hq1
  go_enter Tryd.func13, Tryd.ntmps13
  go_wp2
  go_loopw [1] (fun v wr => Aside0 (Buf B R n (room + n) (flat P) P w wr v)) (fun v _ => n - (match v with | .slice _ L _ => L | _ => 0))
  case atStart => exact hstart
  case round =>
    obtain ⟨g', L, C, P', bs, rfl, hLn, hst⟩ := hrel.out
    have HX := Aside0.mk hst
    have hBw : B ≤ wr.heap.size := Nat.le_trans hB hst.bw.size
    have hLC := hst.lc
    have hCM := hst.cm
    have hpl := hst.pl
    clear hrel hstart hst hn hn2
    have hLn' : (L : Int) ≤ (n : Int) := by omega
    have hLC' : (L : Int) ≤ (C : Int) := by omega
    have hCb : (C : Int) ≤ 2199023255552 := by have := HRN.out; omega
    have hnb : (n : Int) ≤ 1099511627776 := by omega
    have HN := Aside0.mk (And.intro hLn (And.intro hLC (And.intro hCM hpl)))
    clear hLn hLC hCM hpl hn3
    by_cases hlt : (L : Int) < (n : Int)
    · obtain ⟨d, hd⟩ : ∃ d : Nat, (n : Int) - (L : Int) = (d : Int) := ⟨n - L, by omega⟩
      have hdb : (d : Int) ≤ 1099511627776 := by omega
      have hd0 : (0 : Int) < (d : Int) := by omega
      obtain ⟨cc, hcc⟩ : ∃ cc : Nat, (C : Int) - (L : Int) = (cc : Int) := ⟨C - L, by omega⟩
      have hccb : (cc : Int) ≤ 2199023255552 := by omega
      have HD := Aside0.mk (And.intro hd hcc)
      by_cases c1 : (L : Int) < (d : Int)
      · by_cases c2 : 65536 < (d : Int)
        · by_cases c3 : (L : Int) < 65536
          · by_cases c4 : (cc : Int) < 65536
            · have hnm : L + 65536 ≤ n := by omega
              have hcm : L + 65536 ≤ L + 65536 := Nat.le_refl _
              obtain ⟨w2, bs2, hcp, hst2⟩ := grow_st HX.out (65536) (by have := HN.out; omega) hBw
              have ST := Aside0.mk hst2
              have hWs : B ≤ w2.heap.size := Nat.le_trans hB hst2.bw.size
              have z0 : w2.cell? ⟨0, 0, none⟩ = some (.iface t0 (.pointer (some a0))) := (hst2.bw.cell (p := ⟨0, 0, none⟩) (show 0 < B by omega)).trans H0.out
              have z1 : w2.cell? ⟨1, 0, none⟩ = some (.iface t1 u1) := (hst2.bw.cell (p := ⟨1, 0, none⟩) (show 1 < B by omega)).trans H1.out
              have HL := Aside0.mk (full.calls R wr.heap.size L 65536 (65536) P' bs2 a0 t0 (.iface t1 u1) w2 hst2.rd hst2.bt (by omega) (Nat.le_refl _) (by rw [hst2.bl]; omega) (by have := HN.out; omega) (fun e => hst2.gr e.symm) z0 z1 hR0 hst2.g1 HQ.out)
              have hmk := make_buf L (65536) (by omega)
              rw [show ((65536 : Nat) : Int) = 65536 from rfl] at hmk
              clear z0 z1 hst2
              go_upto_region 19 with ((go_at_call 17; refine (HL.out).mono ?_; rintro e w1 ⟨hf, P1, hrd1, hp⟩; obtain ⟨k, E, rfl, HP⟩ := least_one hp; clear hp))
              have HR1 := Aside0.mk hrd1
              have HF1 := Aside0.mk hf
              clear hrd1 hf
              rcases HP.out with ⟨h1, he, h2, h3, h4⟩ | ⟨h1, he, h2, h3, h4⟩
              · simp only [Ending.returned.injEq, Value.tuple.injEq, Array.mk.injEq, List.cons.injEq, Value.int.injEq, and_true, true_and] at he
                obtain ⟨hk, rfl⟩ := he
                obtain rfl : k = 65536 := by omega
                have HS := Aside0.mk (buf_step (n := n) ST.out hnm hcm hBR hWs HF1.out HR1.out h1 h2 h3 h4)
                clear hk h1 h2 h3 h4 HP
                go_wp2
                go_roundw
                case rel => exact HS
                case measure => simp; omega
              · simp only [Ending.returned.injEq, Value.tuple.injEq, Array.mk.injEq, List.cons.injEq, Value.int.injEq, and_true, true_and] at he
                obtain ⟨hk, hEE⟩ := he
                have hbw1 : Below B w w1 := Fr.below ST.out.bw HF1.out hBR ST.out.bg hWs
                have e0 : w1.cell? ⟨0, 0, none⟩ = some (.iface t0 (.pointer (some a0))) := (hbw1.cell (p := ⟨0, 0, none⟩) (show 0 < B by omega)).trans H0.out
                have e1 : w1.cell? ⟨1, 0, none⟩ = some (.iface t1 u1) := (hbw1.cell (p := ⟨1, 0, none⟩) (show 1 < B by omega)).trans H1.out
                have hkb : (k : Int) < 65536 := by omega
                have HK := Aside0.mk (And.intro h1 (And.intro (show k = (flat P').length by omega) h4))
                have hLk : (L : Int) + (k : Int) ≤ ((L + 65536 : Nat) : Int) := by omega
                clear h1 hk h2 h3 h4 HP
                by_cases hnil : flat P' = []
                · rw [if_pos hnil] at hEE
                  subst hEE
                  have hk0 : k = 0 := by have := HK.out.2.1; rw [hnil] at this; simpa using this
                  have HNL := Aside0.mk hnil
                  clear hnil
                  subst hk0
                  have q := HQ.out
                  by_cases hL0 : L = 0
                  · subst hL0
                    go_wp2
                    go_ret2
                    have hz := rf_short (E := .iface t0 (.pointer (some a0))) ST.out HRN.out.1 HRN.out.2.1 hnm hcm hBR hWs HF1.out HK.out.1 HK.out.2.1 HK.out.2.2 ⟨_, _, rfl⟩
                    first
                    | exact hz
                    | (simp only [Nat.zero_add, Nat.add_zero] at hz; exact hz)
                  · have hLp : (0 < L) = True := eq_true (by omega)
                    have hLp2 : (0 < (L : Int)) = True := eq_true (by omega)
                    go_wp2
                    go_ret2
                    exact rf_short (E := .iface t1 u1) ST.out HRN.out.1 HRN.out.2.1 hnm hcm hBR hWs HF1.out HK.out.1 HK.out.2.1 HK.out.2.2 ⟨_, _, rfl⟩
                · rw [if_neg hnil] at hEE
                  subst hEE
                  have HNL := Aside0.mk hnil
                  clear hnil
                  have q := HQ1.out w1 hbw1
                  go_wp2
                  go_ret2
                  exact rf_short (E := .iface t1 u1) ST.out HRN.out.1 HRN.out.2.1 hnm hcm hBR hWs HF1.out HK.out.1 HK.out.2.1 HK.out.2.2 ⟨_, _, rfl⟩
            · have hnm : L + 65536 ≤ n := by omega
              have hcm : L + 65536 ≤ C := by omega
              have ST := HX
              have hWs := hBw
              have z0 : wr.cell? ⟨0, 0, none⟩ = some (.iface t0 (.pointer (some a0))) := (HX.out.bw.cell (p := ⟨0, 0, none⟩) (show 0 < B by omega)).trans H0.out
              have z1 : wr.cell? ⟨1, 0, none⟩ = some (.iface t1 u1) := (HX.out.bw.cell (p := ⟨1, 0, none⟩) (show 1 < B by omega)).trans H1.out
              have HL := Aside0.mk (full.calls R g' L 65536 (C - L) P' bs a0 t0 (.iface t1 u1) wr HX.out.rd HX.out.bt (by omega) (by omega) (by rw [HX.out.bl]; exact hcm) (by have := HN.out; omega) (fun e => HX.out.gr e.symm) z0 z1 hR0 HX.out.g1 HQ.out)
              clear z0 z1
              go_upto_region 19 with (go_at_call 17; refine (HL.out).mono ?_; rintro e w1 ⟨hf, P1, hrd1, hp⟩; obtain ⟨k, E, rfl, HP⟩ := least_one hp; clear hp)
              have HR1 := Aside0.mk hrd1
              have HF1 := Aside0.mk hf
              clear hrd1 hf
              rcases HP.out with ⟨h1, he, h2, h3, h4⟩ | ⟨h1, he, h2, h3, h4⟩
              · simp only [Ending.returned.injEq, Value.tuple.injEq, Array.mk.injEq, List.cons.injEq, Value.int.injEq, and_true, true_and] at he
                obtain ⟨hk, rfl⟩ := he
                obtain rfl : k = 65536 := by omega
                have HS := Aside0.mk (buf_step (n := n) ST.out hnm hcm hBR hWs HF1.out HR1.out h1 h2 h3 h4)
                clear hk h1 h2 h3 h4 HP
                go_wp2
                go_roundw
                case rel => exact HS
                case measure => simp; omega
              · simp only [Ending.returned.injEq, Value.tuple.injEq, Array.mk.injEq, List.cons.injEq, Value.int.injEq, and_true, true_and] at he
                obtain ⟨hk, hEE⟩ := he
                have hbw1 : Below B w w1 := Fr.below ST.out.bw HF1.out hBR ST.out.bg hWs
                have e0 : w1.cell? ⟨0, 0, none⟩ = some (.iface t0 (.pointer (some a0))) := (hbw1.cell (p := ⟨0, 0, none⟩) (show 0 < B by omega)).trans H0.out
                have e1 : w1.cell? ⟨1, 0, none⟩ = some (.iface t1 u1) := (hbw1.cell (p := ⟨1, 0, none⟩) (show 1 < B by omega)).trans H1.out
                have hkb : (k : Int) < 65536 := by omega
                have HK := Aside0.mk (And.intro h1 (And.intro (show k = (flat P').length by omega) h4))
                have hLk : (L : Int) + (k : Int) ≤ (C : Int) := by omega
                clear h1 hk h2 h3 h4 HP
                by_cases hnil : flat P' = []
                · rw [if_pos hnil] at hEE
                  subst hEE
                  have hk0 : k = 0 := by have := HK.out.2.1; rw [hnil] at this; simpa using this
                  have HNL := Aside0.mk hnil
                  clear hnil
                  subst hk0
                  have q := HQ.out
                  by_cases hL0 : L = 0
                  · subst hL0
                    go_wp2
                    go_ret2
                    have hz := rf_short (E := .iface t0 (.pointer (some a0))) ST.out HRN.out.1 HRN.out.2.1 hnm hcm hBR hWs HF1.out HK.out.1 HK.out.2.1 HK.out.2.2 ⟨_, _, rfl⟩
                    first
                    | exact hz
                    | (simp only [Nat.zero_add, Nat.add_zero] at hz; exact hz)
                  · have hLp : (0 < L) = True := eq_true (by omega)
                    have hLp2 : (0 < (L : Int)) = True := eq_true (by omega)
                    go_wp2
                    go_ret2
                    exact rf_short (E := .iface t1 u1) ST.out HRN.out.1 HRN.out.2.1 hnm hcm hBR hWs HF1.out HK.out.1 HK.out.2.1 HK.out.2.2 ⟨_, _, rfl⟩
                · rw [if_neg hnil] at hEE
                  subst hEE
                  have HNL := Aside0.mk hnil
                  clear hnil
                  have q := HQ1.out w1 hbw1
                  go_wp2
                  go_ret2
                  exact rf_short (E := .iface t1 u1) ST.out HRN.out.1 HRN.out.2.1 hnm hcm hBR hWs HF1.out HK.out.1 HK.out.2.1 HK.out.2.2 ⟨_, _, rfl⟩
          · by_cases c4 : (cc : Int) < (L : Int)
            · have hnm : L + L ≤ n := by omega
              have hcm : L + L ≤ L + L := Nat.le_refl _
              obtain ⟨w2, bs2, hcp, hst2⟩ := grow_st HX.out (L) (by have := HN.out; omega) hBw
              have ST := Aside0.mk hst2
              have hWs : B ≤ w2.heap.size := Nat.le_trans hB hst2.bw.size
              have z0 : w2.cell? ⟨0, 0, none⟩ = some (.iface t0 (.pointer (some a0))) := (hst2.bw.cell (p := ⟨0, 0, none⟩) (show 0 < B by omega)).trans H0.out
              have z1 : w2.cell? ⟨1, 0, none⟩ = some (.iface t1 u1) := (hst2.bw.cell (p := ⟨1, 0, none⟩) (show 1 < B by omega)).trans H1.out
              have HL := Aside0.mk (full.calls R wr.heap.size L L (L) P' bs2 a0 t0 (.iface t1 u1) w2 hst2.rd hst2.bt (by omega) (Nat.le_refl _) (by rw [hst2.bl]; omega) (by have := HN.out; omega) (fun e => hst2.gr e.symm) z0 z1 hR0 hst2.g1 HQ.out)
              have hmk := make_buf L (L) (by omega)
              clear z0 z1 hst2
              go_upto_region 19 with ((go_at_call 17; refine (HL.out).mono ?_; rintro e w1 ⟨hf, P1, hrd1, hp⟩; obtain ⟨k, E, rfl, HP⟩ := least_one hp; clear hp))
              have HR1 := Aside0.mk hrd1
              have HF1 := Aside0.mk hf
              clear hrd1 hf
              rcases HP.out with ⟨h1, he, h2, h3, h4⟩ | ⟨h1, he, h2, h3, h4⟩
              · simp only [Ending.returned.injEq, Value.tuple.injEq, Array.mk.injEq, List.cons.injEq, Value.int.injEq, and_true, true_and] at he
                obtain ⟨hk, rfl⟩ := he
                obtain rfl : k = L := by omega
                have HS := Aside0.mk (buf_step (n := n) ST.out hnm hcm hBR hWs HF1.out HR1.out h1 h2 h3 h4)
                clear hk h1 h2 h3 h4 HP
                go_wp2
                go_roundw
                case rel => exact HS
                case measure => simp; omega
              · simp only [Ending.returned.injEq, Value.tuple.injEq, Array.mk.injEq, List.cons.injEq, Value.int.injEq, and_true, true_and] at he
                obtain ⟨hk, hEE⟩ := he
                have hbw1 : Below B w w1 := Fr.below ST.out.bw HF1.out hBR ST.out.bg hWs
                have e0 : w1.cell? ⟨0, 0, none⟩ = some (.iface t0 (.pointer (some a0))) := (hbw1.cell (p := ⟨0, 0, none⟩) (show 0 < B by omega)).trans H0.out
                have e1 : w1.cell? ⟨1, 0, none⟩ = some (.iface t1 u1) := (hbw1.cell (p := ⟨1, 0, none⟩) (show 1 < B by omega)).trans H1.out
                have hkb : (k : Int) < (L : Int) := by omega
                have HK := Aside0.mk (And.intro h1 (And.intro (show k = (flat P').length by omega) h4))
                have hLk : (L : Int) + (k : Int) ≤ ((L + L : Nat) : Int) := by omega
                clear h1 hk h2 h3 h4 HP
                by_cases hnil : flat P' = []
                · rw [if_pos hnil] at hEE
                  subst hEE
                  have hk0 : k = 0 := by have := HK.out.2.1; rw [hnil] at this; simpa using this
                  have HNL := Aside0.mk hnil
                  clear hnil
                  subst hk0
                  have q := HQ.out
                  by_cases hL0 : L = 0
                  · subst hL0
                    go_wp2
                    go_ret2
                    have hz := rf_short (E := .iface t0 (.pointer (some a0))) ST.out HRN.out.1 HRN.out.2.1 hnm hcm hBR hWs HF1.out HK.out.1 HK.out.2.1 HK.out.2.2 ⟨_, _, rfl⟩
                    first
                    | exact hz
                    | (simp only [Nat.zero_add, Nat.add_zero] at hz; exact hz)
                  · have hLp : (0 < L) = True := eq_true (by omega)
                    have hLp2 : (0 < (L : Int)) = True := eq_true (by omega)
                    go_wp2
                    go_ret2
                    exact rf_short (E := .iface t1 u1) ST.out HRN.out.1 HRN.out.2.1 hnm hcm hBR hWs HF1.out HK.out.1 HK.out.2.1 HK.out.2.2 ⟨_, _, rfl⟩
                · rw [if_neg hnil] at hEE
                  subst hEE
                  have HNL := Aside0.mk hnil
                  clear hnil
                  have q := HQ1.out w1 hbw1
                  go_wp2
                  go_ret2
                  exact rf_short (E := .iface t1 u1) ST.out HRN.out.1 HRN.out.2.1 hnm hcm hBR hWs HF1.out HK.out.1 HK.out.2.1 HK.out.2.2 ⟨_, _, rfl⟩
            · have hnm : L + L ≤ n := by omega
              have hcm : L + L ≤ C := by omega
              have ST := HX
              have hWs := hBw
              have z0 : wr.cell? ⟨0, 0, none⟩ = some (.iface t0 (.pointer (some a0))) := (HX.out.bw.cell (p := ⟨0, 0, none⟩) (show 0 < B by omega)).trans H0.out
              have z1 : wr.cell? ⟨1, 0, none⟩ = some (.iface t1 u1) := (HX.out.bw.cell (p := ⟨1, 0, none⟩) (show 1 < B by omega)).trans H1.out
              have HL := Aside0.mk (full.calls R g' L L (C - L) P' bs a0 t0 (.iface t1 u1) wr HX.out.rd HX.out.bt (by omega) (by omega) (by rw [HX.out.bl]; exact hcm) (by have := HN.out; omega) (fun e => HX.out.gr e.symm) z0 z1 hR0 HX.out.g1 HQ.out)
              clear z0 z1
              go_upto_region 19 with (go_at_call 17; refine (HL.out).mono ?_; rintro e w1 ⟨hf, P1, hrd1, hp⟩; obtain ⟨k, E, rfl, HP⟩ := least_one hp; clear hp)
              have HR1 := Aside0.mk hrd1
              have HF1 := Aside0.mk hf
              clear hrd1 hf
              rcases HP.out with ⟨h1, he, h2, h3, h4⟩ | ⟨h1, he, h2, h3, h4⟩
              · simp only [Ending.returned.injEq, Value.tuple.injEq, Array.mk.injEq, List.cons.injEq, Value.int.injEq, and_true, true_and] at he
                obtain ⟨hk, rfl⟩ := he
                obtain rfl : k = L := by omega
                have HS := Aside0.mk (buf_step (n := n) ST.out hnm hcm hBR hWs HF1.out HR1.out h1 h2 h3 h4)
                clear hk h1 h2 h3 h4 HP
                go_wp2
                go_roundw
                case rel => exact HS
                case measure => simp; omega
              · simp only [Ending.returned.injEq, Value.tuple.injEq, Array.mk.injEq, List.cons.injEq, Value.int.injEq, and_true, true_and] at he
                obtain ⟨hk, hEE⟩ := he
                have hbw1 : Below B w w1 := Fr.below ST.out.bw HF1.out hBR ST.out.bg hWs
                have e0 : w1.cell? ⟨0, 0, none⟩ = some (.iface t0 (.pointer (some a0))) := (hbw1.cell (p := ⟨0, 0, none⟩) (show 0 < B by omega)).trans H0.out
                have e1 : w1.cell? ⟨1, 0, none⟩ = some (.iface t1 u1) := (hbw1.cell (p := ⟨1, 0, none⟩) (show 1 < B by omega)).trans H1.out
                have hkb : (k : Int) < (L : Int) := by omega
                have HK := Aside0.mk (And.intro h1 (And.intro (show k = (flat P').length by omega) h4))
                have hLk : (L : Int) + (k : Int) ≤ (C : Int) := by omega
                clear h1 hk h2 h3 h4 HP
                by_cases hnil : flat P' = []
                · rw [if_pos hnil] at hEE
                  subst hEE
                  have hk0 : k = 0 := by have := HK.out.2.1; rw [hnil] at this; simpa using this
                  have HNL := Aside0.mk hnil
                  clear hnil
                  subst hk0
                  have q := HQ.out
                  by_cases hL0 : L = 0
                  · subst hL0
                    go_wp2
                    go_ret2
                    have hz := rf_short (E := .iface t0 (.pointer (some a0))) ST.out HRN.out.1 HRN.out.2.1 hnm hcm hBR hWs HF1.out HK.out.1 HK.out.2.1 HK.out.2.2 ⟨_, _, rfl⟩
                    first
                    | exact hz
                    | (simp only [Nat.zero_add, Nat.add_zero] at hz; exact hz)
                  · have hLp : (0 < L) = True := eq_true (by omega)
                    have hLp2 : (0 < (L : Int)) = True := eq_true (by omega)
                    go_wp2
                    go_ret2
                    exact rf_short (E := .iface t1 u1) ST.out HRN.out.1 HRN.out.2.1 hnm hcm hBR hWs HF1.out HK.out.1 HK.out.2.1 HK.out.2.2 ⟨_, _, rfl⟩
                · rw [if_neg hnil] at hEE
                  subst hEE
                  have HNL := Aside0.mk hnil
                  clear hnil
                  have q := HQ1.out w1 hbw1
                  go_wp2
                  go_ret2
                  exact rf_short (E := .iface t1 u1) ST.out HRN.out.1 HRN.out.2.1 hnm hcm hBR hWs HF1.out HK.out.1 HK.out.2.1 HK.out.2.2 ⟨_, _, rfl⟩
        · by_cases c4 : (cc : Int) < (d : Int)
          · have hnm : L + d ≤ n := by omega
            have hcm : L + d ≤ L + d := Nat.le_refl _
            obtain ⟨w2, bs2, hcp, hst2⟩ := grow_st HX.out (d) (by have := HN.out; omega) hBw
            have ST := Aside0.mk hst2
            have hWs : B ≤ w2.heap.size := Nat.le_trans hB hst2.bw.size
            have z0 : w2.cell? ⟨0, 0, none⟩ = some (.iface t0 (.pointer (some a0))) := (hst2.bw.cell (p := ⟨0, 0, none⟩) (show 0 < B by omega)).trans H0.out
            have z1 : w2.cell? ⟨1, 0, none⟩ = some (.iface t1 u1) := (hst2.bw.cell (p := ⟨1, 0, none⟩) (show 1 < B by omega)).trans H1.out
            have HL := Aside0.mk (full.calls R wr.heap.size L d (d) P' bs2 a0 t0 (.iface t1 u1) w2 hst2.rd hst2.bt (by omega) (Nat.le_refl _) (by rw [hst2.bl]; omega) (by have := HN.out; omega) (fun e => hst2.gr e.symm) z0 z1 hR0 hst2.g1 HQ.out)
            have hmk := make_buf L (d) (by omega)
            clear z0 z1 hst2
            go_upto_region 19 with ((go_at_call 17; refine (HL.out).mono ?_; rintro e w1 ⟨hf, P1, hrd1, hp⟩; obtain ⟨k, E, rfl, HP⟩ := least_one hp; clear hp))
            have HR1 := Aside0.mk hrd1
            have HF1 := Aside0.mk hf
            clear hrd1 hf
            rcases HP.out with ⟨h1, he, h2, h3, h4⟩ | ⟨h1, he, h2, h3, h4⟩
            · simp only [Ending.returned.injEq, Value.tuple.injEq, Array.mk.injEq, List.cons.injEq, Value.int.injEq, and_true, true_and] at he
              obtain ⟨hk, rfl⟩ := he
              obtain rfl : k = d := by omega
              have HS := Aside0.mk (buf_step (n := n) ST.out hnm hcm hBR hWs HF1.out HR1.out h1 h2 h3 h4)
              clear hk h1 h2 h3 h4 HP
              go_wp2
              go_roundw
              case rel => exact HS
              case measure => simp; omega
            · simp only [Ending.returned.injEq, Value.tuple.injEq, Array.mk.injEq, List.cons.injEq, Value.int.injEq, and_true, true_and] at he
              obtain ⟨hk, hEE⟩ := he
              have hbw1 : Below B w w1 := Fr.below ST.out.bw HF1.out hBR ST.out.bg hWs
              have e0 : w1.cell? ⟨0, 0, none⟩ = some (.iface t0 (.pointer (some a0))) := (hbw1.cell (p := ⟨0, 0, none⟩) (show 0 < B by omega)).trans H0.out
              have e1 : w1.cell? ⟨1, 0, none⟩ = some (.iface t1 u1) := (hbw1.cell (p := ⟨1, 0, none⟩) (show 1 < B by omega)).trans H1.out
              have hkb : (k : Int) < (d : Int) := by omega
              have HK := Aside0.mk (And.intro h1 (And.intro (show k = (flat P').length by omega) h4))
              have hLk : (L : Int) + (k : Int) ≤ ((L + d : Nat) : Int) := by omega
              clear h1 hk h2 h3 h4 HP
              by_cases hnil : flat P' = []
              · rw [if_pos hnil] at hEE
                subst hEE
                have hk0 : k = 0 := by have := HK.out.2.1; rw [hnil] at this; simpa using this
                have HNL := Aside0.mk hnil
                clear hnil
                subst hk0
                have q := HQ.out
                by_cases hL0 : L = 0
                · subst hL0
                  go_wp2
                  go_ret2
                  have hz := rf_short (E := .iface t0 (.pointer (some a0))) ST.out HRN.out.1 HRN.out.2.1 hnm hcm hBR hWs HF1.out HK.out.1 HK.out.2.1 HK.out.2.2 ⟨_, _, rfl⟩
                  first
                  | exact hz
                  | (simp only [Nat.zero_add, Nat.add_zero] at hz; exact hz)
                · have hLp : (0 < L) = True := eq_true (by omega)
                  have hLp2 : (0 < (L : Int)) = True := eq_true (by omega)
                  go_wp2
                  go_ret2
                  exact rf_short (E := .iface t1 u1) ST.out HRN.out.1 HRN.out.2.1 hnm hcm hBR hWs HF1.out HK.out.1 HK.out.2.1 HK.out.2.2 ⟨_, _, rfl⟩
              · rw [if_neg hnil] at hEE
                subst hEE
                have HNL := Aside0.mk hnil
                clear hnil
                have q := HQ1.out w1 hbw1
                go_wp2
                go_ret2
                exact rf_short (E := .iface t1 u1) ST.out HRN.out.1 HRN.out.2.1 hnm hcm hBR hWs HF1.out HK.out.1 HK.out.2.1 HK.out.2.2 ⟨_, _, rfl⟩
          · have hnm : L + d ≤ n := by omega
            have hcm : L + d ≤ C := by omega
            have ST := HX
            have hWs := hBw
            have z0 : wr.cell? ⟨0, 0, none⟩ = some (.iface t0 (.pointer (some a0))) := (HX.out.bw.cell (p := ⟨0, 0, none⟩) (show 0 < B by omega)).trans H0.out
            have z1 : wr.cell? ⟨1, 0, none⟩ = some (.iface t1 u1) := (HX.out.bw.cell (p := ⟨1, 0, none⟩) (show 1 < B by omega)).trans H1.out
            have HL := Aside0.mk (full.calls R g' L d (C - L) P' bs a0 t0 (.iface t1 u1) wr HX.out.rd HX.out.bt (by omega) (by omega) (by rw [HX.out.bl]; exact hcm) (by have := HN.out; omega) (fun e => HX.out.gr e.symm) z0 z1 hR0 HX.out.g1 HQ.out)
            clear z0 z1
            go_upto_region 19 with (go_at_call 17; refine (HL.out).mono ?_; rintro e w1 ⟨hf, P1, hrd1, hp⟩; obtain ⟨k, E, rfl, HP⟩ := least_one hp; clear hp)
            have HR1 := Aside0.mk hrd1
            have HF1 := Aside0.mk hf
            clear hrd1 hf
            rcases HP.out with ⟨h1, he, h2, h3, h4⟩ | ⟨h1, he, h2, h3, h4⟩
            · simp only [Ending.returned.injEq, Value.tuple.injEq, Array.mk.injEq, List.cons.injEq, Value.int.injEq, and_true, true_and] at he
              obtain ⟨hk, rfl⟩ := he
              obtain rfl : k = d := by omega
              have HS := Aside0.mk (buf_step (n := n) ST.out hnm hcm hBR hWs HF1.out HR1.out h1 h2 h3 h4)
              clear hk h1 h2 h3 h4 HP
              go_wp2
              go_roundw
              case rel => exact HS
              case measure => simp; omega
            · simp only [Ending.returned.injEq, Value.tuple.injEq, Array.mk.injEq, List.cons.injEq, Value.int.injEq, and_true, true_and] at he
              obtain ⟨hk, hEE⟩ := he
              have hbw1 : Below B w w1 := Fr.below ST.out.bw HF1.out hBR ST.out.bg hWs
              have e0 : w1.cell? ⟨0, 0, none⟩ = some (.iface t0 (.pointer (some a0))) := (hbw1.cell (p := ⟨0, 0, none⟩) (show 0 < B by omega)).trans H0.out
              have e1 : w1.cell? ⟨1, 0, none⟩ = some (.iface t1 u1) := (hbw1.cell (p := ⟨1, 0, none⟩) (show 1 < B by omega)).trans H1.out
              have hkb : (k : Int) < (d : Int) := by omega
              have HK := Aside0.mk (And.intro h1 (And.intro (show k = (flat P').length by omega) h4))
              have hLk : (L : Int) + (k : Int) ≤ (C : Int) := by omega
              clear h1 hk h2 h3 h4 HP
              by_cases hnil : flat P' = []
              · rw [if_pos hnil] at hEE
                subst hEE
                have hk0 : k = 0 := by have := HK.out.2.1; rw [hnil] at this; simpa using this
                have HNL := Aside0.mk hnil
                clear hnil
                subst hk0
                have q := HQ.out
                by_cases hL0 : L = 0
                · subst hL0
                  go_wp2
                  go_ret2
                  have hz := rf_short (E := .iface t0 (.pointer (some a0))) ST.out HRN.out.1 HRN.out.2.1 hnm hcm hBR hWs HF1.out HK.out.1 HK.out.2.1 HK.out.2.2 ⟨_, _, rfl⟩
                  first
                  | exact hz
                  | (simp only [Nat.zero_add, Nat.add_zero] at hz; exact hz)
                · have hLp : (0 < L) = True := eq_true (by omega)
                  have hLp2 : (0 < (L : Int)) = True := eq_true (by omega)
                  go_wp2
                  go_ret2
                  exact rf_short (E := .iface t1 u1) ST.out HRN.out.1 HRN.out.2.1 hnm hcm hBR hWs HF1.out HK.out.1 HK.out.2.1 HK.out.2.2 ⟨_, _, rfl⟩
              · rw [if_neg hnil] at hEE
                subst hEE
                have HNL := Aside0.mk hnil
                clear hnil
                have q := HQ1.out w1 hbw1
                go_wp2
                go_ret2
                exact rf_short (E := .iface t1 u1) ST.out HRN.out.1 HRN.out.2.1 hnm hcm hBR hWs HF1.out HK.out.1 HK.out.2.1 HK.out.2.2 ⟨_, _, rfl⟩
      · by_cases c4 : (cc : Int) < (d : Int)
        · have hnm : L + d ≤ n := by omega
          have hcm : L + d ≤ L + d := Nat.le_refl _
          obtain ⟨w2, bs2, hcp, hst2⟩ := grow_st HX.out (d) (by have := HN.out; omega) hBw
          have ST := Aside0.mk hst2
          have hWs : B ≤ w2.heap.size := Nat.le_trans hB hst2.bw.size
          have z0 : w2.cell? ⟨0, 0, none⟩ = some (.iface t0 (.pointer (some a0))) := (hst2.bw.cell (p := ⟨0, 0, none⟩) (show 0 < B by omega)).trans H0.out
          have z1 : w2.cell? ⟨1, 0, none⟩ = some (.iface t1 u1) := (hst2.bw.cell (p := ⟨1, 0, none⟩) (show 1 < B by omega)).trans H1.out
          have HL := Aside0.mk (full.calls R wr.heap.size L d (d) P' bs2 a0 t0 (.iface t1 u1) w2 hst2.rd hst2.bt (by omega) (Nat.le_refl _) (by rw [hst2.bl]; omega) (by have := HN.out; omega) (fun e => hst2.gr e.symm) z0 z1 hR0 hst2.g1 HQ.out)
          have hmk := make_buf L (d) (by omega)
          clear z0 z1 hst2
          go_upto_region 19 with ((go_at_call 17; refine (HL.out).mono ?_; rintro e w1 ⟨hf, P1, hrd1, hp⟩; obtain ⟨k, E, rfl, HP⟩ := least_one hp; clear hp))
          have HR1 := Aside0.mk hrd1
          have HF1 := Aside0.mk hf
          clear hrd1 hf
          rcases HP.out with ⟨h1, he, h2, h3, h4⟩ | ⟨h1, he, h2, h3, h4⟩
          · simp only [Ending.returned.injEq, Value.tuple.injEq, Array.mk.injEq, List.cons.injEq, Value.int.injEq, and_true, true_and] at he
            obtain ⟨hk, rfl⟩ := he
            obtain rfl : k = d := by omega
            have HS := Aside0.mk (buf_step (n := n) ST.out hnm hcm hBR hWs HF1.out HR1.out h1 h2 h3 h4)
            clear hk h1 h2 h3 h4 HP
            go_wp2
            go_roundw
            case rel => exact HS
            case measure => simp; omega
          · simp only [Ending.returned.injEq, Value.tuple.injEq, Array.mk.injEq, List.cons.injEq, Value.int.injEq, and_true, true_and] at he
            obtain ⟨hk, hEE⟩ := he
            have hbw1 : Below B w w1 := Fr.below ST.out.bw HF1.out hBR ST.out.bg hWs
            have e0 : w1.cell? ⟨0, 0, none⟩ = some (.iface t0 (.pointer (some a0))) := (hbw1.cell (p := ⟨0, 0, none⟩) (show 0 < B by omega)).trans H0.out
            have e1 : w1.cell? ⟨1, 0, none⟩ = some (.iface t1 u1) := (hbw1.cell (p := ⟨1, 0, none⟩) (show 1 < B by omega)).trans H1.out
            have hkb : (k : Int) < (d : Int) := by omega
            have HK := Aside0.mk (And.intro h1 (And.intro (show k = (flat P').length by omega) h4))
            have hLk : (L : Int) + (k : Int) ≤ ((L + d : Nat) : Int) := by omega
            clear h1 hk h2 h3 h4 HP
            by_cases hnil : flat P' = []
            · rw [if_pos hnil] at hEE
              subst hEE
              have hk0 : k = 0 := by have := HK.out.2.1; rw [hnil] at this; simpa using this
              have HNL := Aside0.mk hnil
              clear hnil
              subst hk0
              have q := HQ.out
              by_cases hL0 : L = 0
              · subst hL0
                go_wp2
                go_ret2
                have hz := rf_short (E := .iface t0 (.pointer (some a0))) ST.out HRN.out.1 HRN.out.2.1 hnm hcm hBR hWs HF1.out HK.out.1 HK.out.2.1 HK.out.2.2 ⟨_, _, rfl⟩
                first
                | exact hz
                | (simp only [Nat.zero_add, Nat.add_zero] at hz; exact hz)
              · have hLp : (0 < L) = True := eq_true (by omega)
                have hLp2 : (0 < (L : Int)) = True := eq_true (by omega)
                go_wp2
                go_ret2
                exact rf_short (E := .iface t1 u1) ST.out HRN.out.1 HRN.out.2.1 hnm hcm hBR hWs HF1.out HK.out.1 HK.out.2.1 HK.out.2.2 ⟨_, _, rfl⟩
            · rw [if_neg hnil] at hEE
              subst hEE
              have HNL := Aside0.mk hnil
              clear hnil
              have q := HQ1.out w1 hbw1
              go_wp2
              go_ret2
              exact rf_short (E := .iface t1 u1) ST.out HRN.out.1 HRN.out.2.1 hnm hcm hBR hWs HF1.out HK.out.1 HK.out.2.1 HK.out.2.2 ⟨_, _, rfl⟩
        · have hnm : L + d ≤ n := by omega
          have hcm : L + d ≤ C := by omega
          have ST := HX
          have hWs := hBw
          have z0 : wr.cell? ⟨0, 0, none⟩ = some (.iface t0 (.pointer (some a0))) := (HX.out.bw.cell (p := ⟨0, 0, none⟩) (show 0 < B by omega)).trans H0.out
          have z1 : wr.cell? ⟨1, 0, none⟩ = some (.iface t1 u1) := (HX.out.bw.cell (p := ⟨1, 0, none⟩) (show 1 < B by omega)).trans H1.out
          have HL := Aside0.mk (full.calls R g' L d (C - L) P' bs a0 t0 (.iface t1 u1) wr HX.out.rd HX.out.bt (by omega) (by omega) (by rw [HX.out.bl]; exact hcm) (by have := HN.out; omega) (fun e => HX.out.gr e.symm) z0 z1 hR0 HX.out.g1 HQ.out)
          clear z0 z1
          go_upto_region 19 with (go_at_call 17; refine (HL.out).mono ?_; rintro e w1 ⟨hf, P1, hrd1, hp⟩; obtain ⟨k, E, rfl, HP⟩ := least_one hp; clear hp)
          have HR1 := Aside0.mk hrd1
          have HF1 := Aside0.mk hf
          clear hrd1 hf
          rcases HP.out with ⟨h1, he, h2, h3, h4⟩ | ⟨h1, he, h2, h3, h4⟩
          · simp only [Ending.returned.injEq, Value.tuple.injEq, Array.mk.injEq, List.cons.injEq, Value.int.injEq, and_true, true_and] at he
            obtain ⟨hk, rfl⟩ := he
            obtain rfl : k = d := by omega
            have HS := Aside0.mk (buf_step (n := n) ST.out hnm hcm hBR hWs HF1.out HR1.out h1 h2 h3 h4)
            clear hk h1 h2 h3 h4 HP
            go_wp2
            go_roundw
            case rel => exact HS
            case measure => simp; omega
          · simp only [Ending.returned.injEq, Value.tuple.injEq, Array.mk.injEq, List.cons.injEq, Value.int.injEq, and_true, true_and] at he
            obtain ⟨hk, hEE⟩ := he
            have hbw1 : Below B w w1 := Fr.below ST.out.bw HF1.out hBR ST.out.bg hWs
            have e0 : w1.cell? ⟨0, 0, none⟩ = some (.iface t0 (.pointer (some a0))) := (hbw1.cell (p := ⟨0, 0, none⟩) (show 0 < B by omega)).trans H0.out
            have e1 : w1.cell? ⟨1, 0, none⟩ = some (.iface t1 u1) := (hbw1.cell (p := ⟨1, 0, none⟩) (show 1 < B by omega)).trans H1.out
            have hkb : (k : Int) < (d : Int) := by omega
            have HK := Aside0.mk (And.intro h1 (And.intro (show k = (flat P').length by omega) h4))
            have hLk : (L : Int) + (k : Int) ≤ (C : Int) := by omega
            clear h1 hk h2 h3 h4 HP
            by_cases hnil : flat P' = []
            · rw [if_pos hnil] at hEE
              subst hEE
              have hk0 : k = 0 := by have := HK.out.2.1; rw [hnil] at this; simpa using this
              have HNL := Aside0.mk hnil
              clear hnil
              subst hk0
              have q := HQ.out
              by_cases hL0 : L = 0
              · subst hL0
                go_wp2
                go_ret2
                have hz := rf_short (E := .iface t0 (.pointer (some a0))) ST.out HRN.out.1 HRN.out.2.1 hnm hcm hBR hWs HF1.out HK.out.1 HK.out.2.1 HK.out.2.2 ⟨_, _, rfl⟩
                first
                | exact hz
                | (simp only [Nat.zero_add, Nat.add_zero] at hz; exact hz)
              · have hLp : (0 < L) = True := eq_true (by omega)
                have hLp2 : (0 < (L : Int)) = True := eq_true (by omega)
                go_wp2
                go_ret2
                exact rf_short (E := .iface t1 u1) ST.out HRN.out.1 HRN.out.2.1 hnm hcm hBR hWs HF1.out HK.out.1 HK.out.2.1 HK.out.2.2 ⟨_, _, rfl⟩
            · rw [if_neg hnil] at hEE
              subst hEE
              have HNL := Aside0.mk hnil
              clear hnil
              have q := HQ1.out w1 hbw1
              go_wp2
              go_ret2
              exact rf_short (E := .iface t1 u1) ST.out HRN.out.1 HRN.out.2.1 hnm hcm hBR hWs HF1.out HK.out.1 HK.out.2.1 HK.out.2.2 ⟨_, _, rfl⟩
    · obtain rfl : L = n := by have := HN.out; omega
      go_wp2
      go_ret2
      exact rf_whole HX.out rfl
end Go.Proofs.YtdooimdefmegaaaDoor.Given
