/-
  indexLike's function literal: the walk.
-/
import Derived.Test.YbulkebqkCClo2
namespace Go.Proofs.Ybulkebqk
open Go.RowKit
set_option linter.unusedVariables false
set_option linter.unusedSimpArgs false

set_option maxRecDepth 20000 in
set_option maxHeartbeats 3200000 in
theorem clo42 (la l : List OpV) (xs : List Int) (ys : List ByteArray) (w0 : World) (X0 X N PL pb xb q G0 cO S0 L0 ml n1 c1 t : Nat) (a1 : Option Addr) (o : OpV) (v1 : Value) (vs vs0 : List Value) (os : List IOp) (T I : List Nat) (w : World)
    (hq : q < l.length) (bl : l.length ≤ 65536) (hac : acc o.k = true) (ho : o = l.getD q default) (hm : o.t ∈ xs) (hx : xs.Nodup) (bxs : xs.length ≤ 65536) (ht : t = xs.idxOf o.t)
    (hos : os = iops xs ys la) (hT : T = os.map (·.t)) (hml : ml = start T xs.length) (bos : os.length ≤ 65536) (hn1 : n1 = xs.length + 1) (bys : ys.length ≤ 65536) (hla : ∀ o, o ∈ la → o.t ∈ xs) (hly : ∀ o, o ∈ accs la → o.i ∈ ys)
    (hX0 : Blk w0 X0 75 vs0) (v01 : vs0[1]? = some (.slice a1 ys.length c1)) (v02 : vs0[2]? = some (.slice (some ⟨G0, 0, none⟩) os.length cO)) (v03 : vs0[3]? = some (.slice (some ⟨S0, 0, none⟩) n1 n1)) (v04 : vs0[4]? = some (.slice (some ⟨L0, 0, none⟩) ml ml))
    (hG0 : Row w0 G0 (ioCells (paired T I os))) (hS0 : Row w0 S0 (nats (starts T xs.length))) (hL0 : Row w0 L0 (nats (flat (pos T) xs.length))) (hA1 : At w0 a1 (strs ys))
    (hJ : J2 la l xs w0 X0 w0.heap.size PL pb xb (.slice a1 ys.length c1) q w v1) (hX : Blk w X 75 vs) (hvl : vs.length = 12) (hv1 : vs[1]? = some v1) (hPN : PL < N) (hPN1 : w0.heap.size ≤ PL) :
    Calls Yba.prog 42 #[.agg #[.int .u8 o.k, .int .i64 o.t, .string o.i], .int .i64 (t : Nat), .pointer (some ⟨xb, 0, none⟩), .pointer (some ⟨pb, 0, none⟩)] w fun e w' =>
      Only (fun b => b = X ∨ ¬ Keep w0.heap.size N w b) w w' ∧
      ((∃ v1', e = .returned (.tuple #[.int .i64 (plc ys o.i : Nat), .bool true]) ∧ J2 la l xs w0 X0 w0.heap.size PL pb xb (.slice a1 ys.length c1) (q + 1) w' v1' ∧ Blk w' X 75 (vs.set 1 v1')) ∨ (∃ z, e = .returned (.tuple #[.int .i64 z, .bool false]) ∧ ¬ ∀ t, t ∈ xs → progOf la t = progOf l t)) := by
  obtain ⟨hv, hPL, hpb, hxb, hsame, hpre⟩ := hJ
  subst hv
  have tn : t < xs.length := by rw [ht]; exact List.idxOf_lt_length_iff.2 hm
  have lX0 := hX0.lt
  have hX0w := hX0.same (hsame X0 lX0)
  have hG0w := hG0.same (hsame G0 hG0.lt)
  have hS0w := hS0.same (hsame S0 hS0.lt)
  have hL0w := hL0.same (hsame L0 hL0.lt)
  have hTq : T = tnums xs la := by rw [hT, hos, tnums_iops]
  have hprog : progOf la o.t = (pos T t).map fun k => (⟨((accs la).getD k default).k, 0, ((accs la).getD k default).i⟩ : OpV) := by rw [hTq, ht]; exact prog_pos xs la hla o.t hm
  have hpl := hpre o.t hm
  obtain ⟨pv, hpv⟩ : ∃ pv, pv = (progUp l o.t q).length := ⟨_, rfl⟩
  obtain ⟨Lp, hLp⟩ : ∃ Lp, Lp = (pos T t).length := ⟨_, rfl⟩
  have hpL : pv ≤ Lp := by
    have := hpl.length_le
    rw [hprog, List.length_map] at this
    rw [hpv, hLp]; exact this
  have hls : start T (t + 1) ≤ ml := by rw [hml]; exact start_mono T tn
  have hTl : T.length = os.length := by rw [hT, List.length_map]
  have hml2 : ml ≤ 65536 := by rw [hml]; have := start_le T xs.length; omega
  have hof := of43 S0 L0 n1 n1 ml ml (starts T xs.length) t (start T t) (start T (t + 1)) (w.alloc (.cells #[.int .u8 o.k, .int .i64 o.t, .string o.i] 64)) (by rw [starts, rmap_len]; omega) (by omega) (by omega) (starts_at T xs.length t (by omega)) (starts_at T xs.length (t + 1) (by omega)) (start_mono T (by omega)) hls (Nat.le_refl _) (by omega) (hS0w.alloc _)
  have hLs : start T (t + 1) - start T t = Lp := by rw [start_succ, hLp]; omega
  rw [hLs] at hof
  have hXd : ∀ d v, vs0[d]? = some v → w.cell? ⟨X0, d, none⟩ = some v := fun d v h => hX0w.cell h
  have k3 := hXd 3 _ v03
  have k4 := hXd 4 _ v04
  have kx : w.cell? ⟨xb, 0, none⟩ = some (.pointer (some ⟨X0, 0, none⟩)) := hxb.cell rfl
  have lxb : xb < w.heap.size := hxb.lt
  have lX0w : X0 < w.heap.size := hX0w.lt
  have HPL : Hid (Blk w PL 3 (nats (placed xs l q))) := hPL
  have Hpb : Hid (Blk w pb 41 [.slice (some ⟨PL, 0, none⟩) xs.length xs.length]) := hpb
  have Hxb : Hid (Blk w xb 66 [.pointer (some ⟨X0, 0, none⟩)]) := hxb
  have HX0 : Hid (Blk w X0 75 vs0) := hX0w
  have HG0 : Hid (Row w G0 (ioCells (paired T I os))) := hG0w
  have HL0 : Hid (Row w L0 (nats (flat (pos T) xs.length))) := hL0w
  have HX : Hid (Blk w X 75 vs) := hX
  have HO : Hid (o = l.getD q default) := ho
  have HT : Hid (t = xs.idxOf o.t) := ht
  have HOS : Hid (os = iops xs ys la) := hos
  have HTT : Hid (T = os.map (·.t)) := hT
  have HTQ : Hid (T = tnums xs la) := hTq
  have HPV : Hid (pv = (progUp l o.t q).length) := hpv
  have HLP : Hid (Lp = (pos T t).length) := hLp
  have HPR : Hid (progOf la o.t = (pos T t).map fun k => (⟨((accs la).getD k default).k, 0, ((accs la).getD k default).i⟩ : OpV)) := hprog
  have HML : Hid (ml = start T xs.length) := hml
  have HLS : Hid (start T (t + 1) - start T t = Lp) := hLs
  have HLS2 : Hid (start T (t + 1) ≤ ml) := hls
  have HPRE : Hid (∀ t, t ∈ xs → progUp l t q <+: progOf la t) := hpre
  have HSM : Hid (∀ b, b < w0.heap.size → w.heap[b]? = w0.heap[b]?) := hsame
  have HV1 : Hid (vs[1]? = some (.slice a1 ys.length c1)) := hv1
  have HA1 : Hid (At w a1 (strs ys)) := fun h => by
    obtain ⟨g, e, hr⟩ := hA1 h
    exact ⟨g, e, hr.same (hsame g hr.lt)⟩
  have HA0 : Hid (At w0 a1 (strs ys)) := hA1
  have HTY : Hid (w.heap[PL]? = some (.cells (nats (placed xs l q)).toArray 3 (0, 0))) := hPL
  obtain ⟨nt, hnt⟩ : ∃ nt, nt = xs.length := ⟨_, rfl⟩
  have HNT : Hid (nt = xs.length) := hnt
  rw [← hnt] at Hpb tn bxs
  have HV01 : Hid (vs0[1]? = some (.slice a1 ys.length c1)) := v01
  have HV02 : Hid (vs0[2]? = some (.slice (some ⟨G0, 0, none⟩) os.length cO)) := v02
  have HTL : Hid (T.length = os.length) := hTl
  clear ho ht hos hT hTq hpv hLp hprog hml hLs hls hpre hsame hv1 hA1 hn1 hX0 hG0 hS0 hL0 hX0w hG0w hS0w hL0w hXd hX hPL hpb hxb v01 v02 v03 v04 hpl hTl hnt
  go_enter Yba.func42, Yba.ntmps42
  go_wp2_with fail
  refine hof.mono ?_
  clear hof k3 k4 kx
  rintro e w2 ⟨ad, c', rfl, had, hB2⟩
  have hP2 := (blk_new w [.int .u8 o.k, .int .i64 o.t, .string o.i] 64).below hB2 (by simp)
  have hPL2 := (HPL.out.alloc (.cells #[.int .u8 o.k, .int .i64 o.t, .string o.i] 64)).below hB2 (by have := HPL.out.lt; simp; omega)
  have hpb2 := (Hpb.out.alloc (.cells #[.int .u8 o.k, .int .i64 o.t, .string o.i] 64)).below hB2 (by have := Hpb.out.lt; simp; omega)
  have hxb2 := (Hxb.out.alloc (.cells #[.int .u8 o.k, .int .i64 o.t, .string o.i] 64)).below hB2 (by have := Hxb.out.lt; simp; omega)
  have hX02 := (HX0.out.alloc (.cells #[.int .u8 o.k, .int .i64 o.t, .string o.i] 64)).below hB2 (by have := HX0.out.lt; simp; omega)
  have hX2 := (HX.out.alloc (.cells #[.int .u8 o.k, .int .i64 o.t, .string o.i] 64)).below hB2 (by have := HX.out.lt; simp; omega)
  have hG02 := (HG0.out.alloc (.cells #[.int .u8 o.k, .int .i64 o.t, .string o.i] 64)).below hB2 (by have := HG0.out.lt; simp; omega)
  have hL02 := (HL0.out.alloc (.cells #[.int .u8 o.k, .int .i64 o.t, .string o.i] 64)).below hB2 (by have := HL0.out.lt; simp; omega)
  have ho2 : Only (fun b => b = X ∨ ¬ Keep w0.heap.size N w b) w w2 := ((Only.refl _ w).alloc (.cells #[.int .u8 o.k, .int .i64 o.t, .string o.i] 64)).below hB2
  have cpl := hPL2.cell (nats_at (placed xs l q) t (by rw [placed_len, ← HNT.out]; exact tn))
  have epl : (placed xs l q).getD t 0 = pv := by rw [HT.out, placed_at xs l q hm, HPV.out]
  rw [epl] at cpl
  have fpl := hPL2.frozen t
  have cpb : w2.cell? ⟨pb, 0, none⟩ = some (.slice (some ⟨PL, 0, none⟩) nt nt) := hpb2.cell rfl
  have cxb : w2.cell? ⟨xb, 0, none⟩ = some (.pointer (some ⟨X0, 0, none⟩)) := hxb2.cell rfl
  have tnI : (t : Int) < (nt : Int) := by omega
  obtain ⟨P, hP⟩ : ∃ P, w.heap.size = P := ⟨_, rfl⟩
  rw [hP] at hP2 ⊢
  have HP2 : Hid (Blk w2 P 64 [.int .u8 o.k, .int .i64 o.t, .string o.i]) := hP2
  have HPL2 : Hid (Blk w2 PL 3 (nats (placed xs l q))) := hPL2
  have Hpb2 : Hid (Blk w2 pb 41 [.slice (some ⟨PL, 0, none⟩) nt nt]) := hpb2
  have Hxb2 : Hid (Blk w2 xb 66 [.pointer (some ⟨X0, 0, none⟩)]) := hxb2
  have HX02 : Hid (Blk w2 X0 75 vs0) := hX02
  have HX2 : Hid (Blk w2 X 75 vs) := hX2
  have HG02 : Hid (Row w2 G0 (ioCells (paired T I os))) := hG02
  have HL02 : Hid (Row w2 L0 (nats (flat (pos T) xs.length))) := hL02
  have HAD : Hid (0 < Lp → ad = ⟨L0, start T t, none⟩) := fun h => had (by have := HLS.out; omega)
  have HB2 : Hid (Below w.heap.size w w2) := ((Below.refl _ w).alloc (Nat.le_refl _) _).trans (hB2.mono (by simp))
  clear hP2 hPL2 hpb2 hxb2 hX02 hX2 hG02 hL02 had hB2 epl HPL Hpb Hxb HX0 HX HG0 HL0 lxb lX0w
  by_cases hfull : pv = Lp
  · have HBAD : Hid (¬ ∀ t, t ∈ xs → progOf la t = progOf l t) := by
      intro hall
      have h1 := (progUp_whole l o.t (show q + 1 ≤ l.length from hq)).length_le
      rw [← hall o.t hm, HO.out, progUp_app l _ q hq (by rw [← HO.out, hac]; simp), ← HO.out, HPR.out, List.length_append, List.length_map, ← HPV.out, ← HLP.out] at h1
      simp at h1; omega
    have hfb : ((pv : Int) == (Lp : Int)) = true := by simp; omega
    go_wp2_with fail
    refine bodyPost_ret (v := .tuple #[.int .i64 0, .bool false]) (by simp [results, Yba.results42, go_sem]) rfl ?_
    exact ⟨ho2, .inr ⟨0, rfl, HBAD.out⟩⟩
  · have hlt : pv < Lp := by omega
    have hfb : ((pv : Int) == (Lp : Int)) = false := by simp; omega
    have hfn : ¬ (pv : Int) = (Lp : Int) := by omega
    have ead := HAD.out (by omega)
    subst ead
    have hpp : pv < (pos T t).length := by rw [← HLP.out]; exact hlt
    obtain ⟨k0, hk0⟩ : ∃ k0, k0 = (pos T t).getD pv 0 := ⟨_, rfl⟩
    have hk0m : k0 < os.length := by
      have := (pos_at T t pv hpp).1
      rw [← hk0, HTL.out] at this
      exact this
    have cL : w2.cell? ⟨L0, start T t + pv, none⟩ = some (.int .i64 (k0 : Int)) := by
      have hfl : start T t + pv < (flat (pos T) xs.length).length := by
        have h1 := HLS2.out
        have h2 := HML.out
        have h3 : start T (t + 1) = start T t + (pos T t).length := start_succ T t
        have h4 : (flat (pos T) xs.length).length = start T xs.length := rfl
        omega
      have := HL02.out.cell (nats_at (flat (pos T) xs.length) (start T t + pv) hfl)
      rw [show start T t + pv = (flat (pos T) t).length + pv from rfl, flat_at (pos T) 0 (by rw [← HNT.out]; exact tn) hpp, ← hk0] at this
      exact this
    obtain ⟨r0, r1, r2, r3⟩ := ioCells_at (paired T I os) k0 (by rw [paired_len]; exact hk0m)
    have g0 := HG02.out.cell r0
    have g1 := HG02.out.cell r1
    have g2 := HG02.out.cell r2
    have g3 := HG02.out.cell r3
    have hoa : (accs la).getD k0 default ∈ accs la := by
      have : k0 < (accs la).length := by rw [HOS.out, iops_len] at hk0m; exact hk0m
      rw [List.getD_eq_getElem?_getD, List.getElem?_eq_getElem this]; simp
    have hpe : (paired T I os).getD k0 default = { iop xs ys ((accs la).getD k0 default) with p := pair T I k0 } := by
      have h1 : os.getD k0 default = iop xs ys ((accs la).getD k0 default) := by
        have : k0 < (accs la).length := by rw [HOS.out, iops_len] at hk0m; exact hk0m
        rw [HOS.out, iops, List.getD_eq_getElem?_getD, List.getElem?_map, List.getD_eq_getElem?_getD, List.getElem?_eq_getElem this]; rfl
      rw [paired, rmap_at _ _ _ _ hk0m, h1]
    rw [hpe] at g0 g1 g2 g3
    simp only [iop] at g0 g1 g2 g3
    obtain ⟨oa, hoae⟩ : ∃ oa, oa = (accs la).getD k0 default := ⟨_, rfl⟩
    rw [← hoae] at g0 g1 g2 hoa
    obtain ⟨xi, hxi⟩ : ∃ xi, xi = plc ys oa.i := ⟨_, rfl⟩
    rw [← hxi] at g2
    obtain ⟨z1, hz1⟩ : ∃ z1, z1 = xs.idxOf oa.t := ⟨_, rfl⟩
    rw [← hz1] at g1
    obtain ⟨z3, hz3⟩ : ∃ z3, z3 = pair T I k0 := ⟨_, rfl⟩
    rw [← hz3] at g3
    have hiy := hly oa hoa
    have hxl : xi < ys.length := by rw [hxi]; exact plc_lt hiy
    obtain ⟨gy, ey, hry⟩ := (HA1.out) (by rw [strs_len]; omega)
    subst ey
    have hry2 := (hry.below HB2.out hry.lt).cell (strs_at ys xi hxl)
    have eyi : ys.getD xi default = oa.i := by rw [hxi]; exact plc_at hiy default
    rw [eyi] at hry2
    have x02 : w2.cell? ⟨X0, 2, none⟩ = some (.slice (some ⟨G0, 0, none⟩) os.length cO) := HX02.out.cell HV02.out
    have x01 : w2.cell? ⟨X0, 1, none⟩ = some (.slice (some ⟨gy, 0, none⟩) ys.length c1) := HX02.out.cell HV01.out
    have p0 : w2.cell? ⟨P, 0, none⟩ = some (.int .u8 o.k) := HP2.out.cell rfl
    have p2 : w2.cell? ⟨P, 2, none⟩ = some (.string o.i) := HP2.out.cell rfl
    have i1 : (pv : Int) < (Lp : Int) := by omega
    have i2 : (k0 : Int) < (os.length : Int) := by omega
    have i3 : (xi : Int) < (ys.length : Int) := by omega
    have HXI : Hid (xi = plc ys oa.i) := hxi
    have HOA : Hid (oa = (accs la).getD k0 default) := hoae
    have HK0 : Hid (k0 = (pos T t).getD pv 0) := hk0
    have l1 : pb < w2.heap.size := Hpb2.out.lt
    have l2 : PL < w2.heap.size := HPL2.out.lt
    have l3 : X0 < w2.heap.size := HX02.out.lt
    have l4 : L0 < w2.heap.size := HL02.out.lt
    have l5 : G0 < w2.heap.size := HG02.out.lt
    have l6 : xb < w2.heap.size := Hxb2.out.lt
    have l7 : P < w2.heap.size := HP2.out.lt
    have l8 : gy < w2.heap.size := (hry.below HB2.out hry.lt).lt
    have HGY : Hid (gy < w0.heap.size) := by
      show gy < _
      obtain ⟨g', eg, hr'⟩ := HA0.out (by rw [strs_len]; omega)
      cases eg
      exact hr'.lt
    clear hk0 r0 r1 r2 r3 hpe hoae hxi hz1 hz3 eyi HA1 hry HA0
    go_wp2_with fail
    go_region
    have hPL3 := (HPL2.out.alloc (.cells #[.int .u8 oa.k, .int .i64 (z1 : Int), .int .i64 (xi : Int), .int .i64 (z3 : Int)] 79)).drew
    have hpb3 := (Hpb2.out.alloc (.cells #[.int .u8 oa.k, .int .i64 (z1 : Int), .int .i64 (xi : Int), .int .i64 (z3 : Int)] 79)).drew
    have hxb3 := (Hxb2.out.alloc (.cells #[.int .u8 oa.k, .int .i64 (z1 : Int), .int .i64 (xi : Int), .int .i64 (z3 : Int)] 79)).drew
    have hX3 := (HX2.out.alloc (.cells #[.int .u8 oa.k, .int .i64 (z1 : Int), .int .i64 (xi : Int), .int .i64 (z3 : Int)] 79)).drew
    have hX03 := (HX02.out.alloc (.cells #[.int .u8 oa.k, .int .i64 (z1 : Int), .int .i64 (xi : Int), .int .i64 (z3 : Int)] 79)).drew
    have hP3 := (HP2.out.alloc (.cells #[.int .u8 oa.k, .int .i64 (z1 : Int), .int .i64 (xi : Int), .int .i64 (z3 : Int)] 79)).drew
    have hB3 := (blk_new w2 [.int .u8 oa.k, .int .i64 (z1 : Int), .int .i64 (xi : Int), .int .i64 (z3 : Int)] 79).drew
    have ho3 := (ho2.alloc (.cells #[.int .u8 oa.k, .int .i64 (z1 : Int), .int .i64 (xi : Int), .int .i64 (z3 : Int)] 79)).drew
    have hsm3 : ∀ b, b < w0.heap.size → (w2.alloc (.cells #[.int .u8 oa.k, .int .i64 (z1 : Int), .int .i64 (xi : Int), .int .i64 (z3 : Int)] 79)).drew.heap[b]? = w0.heap[b]? := fun b hb => by
      have hbw : b < w.heap.size := by have := (Array.getElem?_eq_some_iff.1 HTY.out).1; omega
      have h2 := HB2.out.block b hbw
      have hbw2 : b < w2.heap.size := by have := HB2.out.size; omega
      exact ((Below.heap_alloc w2 (.cells #[.int .u8 oa.k, .int .i64 (z1 : Int), .int .i64 (xi : Int), .int .i64 (z3 : Int)] 79) b hbw2).trans h2).trans (HSM.out b hb)
    have ry3 : (w2.alloc (.cells #[.int .u8 oa.k, .int .i64 (z1 : Int), .int .i64 (xi : Int), .int .i64 (z3 : Int)] 79)).drew.cell? ⟨gy, xi, none⟩ = some (.string oa.i) := by
      have : (w2.alloc (.cells #[.int .u8 oa.k, .int .i64 (z1 : Int), .int .i64 (xi : Int), .int .i64 (z3 : Int)] 79)).cell? ⟨gy, xi, none⟩ = w2.cell? ⟨gy, xi, none⟩ := World.cell?_of_block (Below.heap_alloc w2 (.cells #[.int .u8 oa.k, .int .i64 (z1 : Int), .int .i64 (xi : Int), .int .i64 (z3 : Int)] 79) gy l8)
      exact this.trans hry2
    obtain ⟨Q, hQ⟩ : ∃ Q, w2.heap.size = Q := ⟨_, rfl⟩
    rw [hQ] at hB3 ⊢
    obtain ⟨W3, hW3⟩ : ∃ W3, (w2.alloc (.cells #[.int .u8 oa.k, .int .i64 (z1 : Int), .int .i64 (xi : Int), .int .i64 (z3 : Int)] 79)).drew = W3 := ⟨_, rfl⟩
    rw [hW3] at hPL3 hpb3 hxb3 hX3 hX03 hP3 hB3 ho3 hsm3 ry3 ⊢
    have d1 := hPL3.cell (nats_at (placed xs l q) t (by rw [placed_len, ← HNT.out]; exact tn))
    have epl : (placed xs l q).getD t 0 = pv := by rw [HT.out, placed_at xs l q hm, HPV.out]
    rw [epl] at d1
    have fd1 := hPL3.frozen t
    have e1 : PL ≠ X := hPL3.ne hX3 (by decide)
    have e2 : PL ≠ X0 := hPL3.ne hX03 (by decide)
    have e3 : PL ≠ pb := hPL3.ne hpb3 (by decide)
    have e4 : PL ≠ xb := hPL3.ne hxb3 (by decide)
    have e5 : PL ≠ P := hPL3.ne hP3 (by decide)
    have e6 : PL ≠ Q := hPL3.ne hB3 (by decide)
    have e7 : PL ≠ gy := by
      have := HSM.out
      intro e
      have hgy : gy < w0.heap.size := HGY.out
      omega
    have k1 : W3.cell? ⟨pb, 0, none⟩ = some (.slice (some ⟨PL, 0, none⟩) nt nt) := hpb3.cell rfl
    -- behind the store
    have hPL4 := hPL3.set t (.int .i64 ((pv : Int) + 1))
    have hpb4 := hpb3.other ⟨PL, t, none⟩ (.int .i64 ((pv : Int) + 1)) (Ne.symm e3)
    have hxb4 := hxb3.other ⟨PL, t, none⟩ (.int .i64 ((pv : Int) + 1)) (Ne.symm e4)
    have hX4 := hX3.other ⟨PL, t, none⟩ (.int .i64 ((pv : Int) + 1)) (Ne.symm e1)
    have hX04 := hX03.other ⟨PL, t, none⟩ (.int .i64 ((pv : Int) + 1)) (Ne.symm e2)
    have hP4 := hP3.other ⟨PL, t, none⟩ (.int .i64 ((pv : Int) + 1)) (Ne.symm e5)
    have hB4 := hB3.other ⟨PL, t, none⟩ (.int .i64 ((pv : Int) + 1)) (Ne.symm e6)
    have ry4 : (W3.setCell ⟨PL, t, none⟩ (.int .i64 ((pv : Int) + 1))).cell? ⟨gy, xi, none⟩ = some (.string oa.i) := (World.cell?_of_block (Below.heap_setCell _ _ _ _ (Ne.symm e7))).trans ry3
    have hsm4 : ∀ b, b < w0.heap.size → (W3.setCell ⟨PL, t, none⟩ (.int .i64 ((pv : Int) + 1))).heap[b]? = w0.heap[b]? := fun b hb => (Below.heap_setCell _ _ _ _ (by simp; omega)).trans (hsm3 b hb)
    have ho4 := ho3.setCell (p := ⟨PL, t, none⟩) (.inr (.inr (fun hk => by
      rcases hk with h | ⟨c, ty, f, e, h⟩
      · simp at h; omega
      · rw [HTY.out] at e; cases e
        rcases h with h | h | h | h | ⟨_, h⟩
        · exact absurd h (by decide)
        · exact absurd h (by decide)
        · exact absurd h (by decide)
        · exact absurd h (by decide)
        · simp at h; omega))) (.int .i64 ((pv : Int) + 1))
    obtain ⟨W4, hW4⟩ : ∃ W4, W3.setCell ⟨PL, t, none⟩ (.int .i64 ((pv : Int) + 1)) = W4 := ⟨_, rfl⟩
    rw [hW4] at hPL4 hpb4 hxb4 hX4 hX04 hP4 hB4 ry4 hsm4 ho4
    have HW4 : Hid (W3.setCell ⟨PL, t, none⟩ (.int .i64 ((pv : Int) + 1)) = W4) := hW4
    have HJ4 : Hid (Blk W4 PL 3 (nats ((placed xs l q).set t (pv + 1)))) := by
      show Blk _ _ _ _
      rw [← nats_set]; exact hPL4
    have Hpb4 : Hid (Blk W4 pb 41 [.slice (some ⟨PL, 0, none⟩) nt nt]) := hpb4
    have Hxb4 : Hid (Blk W4 xb 66 [.pointer (some ⟨X0, 0, none⟩)]) := hxb4
    have HX4 : Hid (Blk W4 X 75 vs) := hX4
    have HSM4 : Hid (∀ b, b < w0.heap.size → W4.heap[b]? = w0.heap[b]?) := hsm4
    have HO4 : Hid (Only (fun b => b = X ∨ ¬ Keep w0.heap.size N w b) w W4) := ho4
    have m0 : W4.cell? ⟨Q, 0, none⟩ = some (.int .u8 oa.k) := hB4.cell rfl
    have m2 : W4.cell? ⟨Q, 2, none⟩ = some (.int .i64 (xi : Int)) := hB4.cell rfl
    have n0 : W4.cell? ⟨P, 0, none⟩ = some (.int .u8 o.k) := hP4.cell rfl
    have n2 : W4.cell? ⟨P, 2, none⟩ = some (.string o.i) := hP4.cell rfl
    have o0 : W4.cell? ⟨xb, 0, none⟩ = some (.pointer (some ⟨X0, 0, none⟩)) := hxb4.cell rfl
    have o1 : W4.cell? ⟨X0, 1, none⟩ = some (.slice (some ⟨gy, 0, none⟩) ys.length c1) := hX04.cell HV01.out
    have hbpv : (pv : Int) ≤ 65536 := by
      have h1 := progUp_len l o.t q
      rw [← HPV.out] at h1; omega
    -- the next of the program
    have HNX : Hid (∀ d, (progOf la o.t)[pv]? = some d → d = ⟨oa.k, 0, oa.i⟩) := fun d hd => by
      rw [HPR.out, List.getElem?_map, List.getElem?_eq_getElem hpp] at hd
      simp only [Option.map_some, Option.some.injEq] at hd
      have ek : (pos T t)[pv] = k0 := by rw [HK0.out, List.getD_eq_getElem?_getD, List.getElem?_eq_getElem hpp]; rfl
      rw [← hd, ek, ← HOA.out]
    have HPS : Hid (progUp l o.t (q + 1) = progUp l o.t q ++ [⟨o.k, 0, o.i⟩]) := by
      show _ = _
      have := progUp_app l o.t q hq (by rw [← HO.out, hac]; simp)
      rw [← HO.out] at this
      exact this
    have HBAD : Hid ((⟨oa.k, 0, oa.i⟩ : OpV) ≠ ⟨o.k, 0, o.i⟩ → ¬ ∀ t, t ∈ xs → progOf la t = progOf l t) := fun hne hall => by
      have h1 := progUp_whole l o.t (show q + 1 ≤ l.length from hq)
      rw [← hall o.t hm, HPS.out] at h1
      obtain ⟨r, hr⟩ := h1
      have h2 : (progOf la o.t)[pv]? = some ⟨o.k, 0, o.i⟩ := by rw [← hr, HPV.out]; simp
      exact hne (HNX.out _ h2).symm
    clear hPL3 hpb3 hxb3 hX3 hX03 hP3 hB3 ho3 hsm3 ry3 hPL4 hpb4 hxb4 hX4 hX04 hP4 hB4 hsm4 ho4 hW4 hW3 hQ g0 g1 g2 g3 hry2 cL x01 x02 p0 p2 cpl fpl cpb cxb l1 l2 l3 l4 l5 l6 l7 l8 epl HP2 HPL2 Hpb2 Hxb2 HX02 HX2 HG02 HL02 HB2 ho2 hoa
    clear w2
    go_wp2_with fail
    rw [HW4.out]
    by_cases hk : oa.k = o.k
    · by_cases hi : oa.i = o.i
      · have hkb : (oa.k == o.k) = true := by simpa using hk
        have hib : (oa.i.toList == o.i.toList) = true := by rw [hi]; simp
        have HR : Hid (xi = plc ys o.i) := by show _ = _; rw [HXI.out, hi]
        have HJN : Hid (∀ s, s ∈ xs → progUp l s (q + 1) <+: progOf la s) := fun s hs => by
          by_cases es : o.t = s
          · subst es
            obtain ⟨r, hr⟩ := HPRE.out o.t hs
            have hlen : pv < (progOf la o.t).length := by rw [HPR.out, List.length_map]; exact hpp
            have h1 := HNX.out _ (List.getElem?_eq_getElem hlen)
            rw [HPS.out, ← hr]
            rw [List.prefix_append_right_inj]
            cases r with
            | nil =>
              have := congrArg List.length hr
              rw [List.append_nil, ← HPV.out] at this
              omega
            | cons d r =>
              have h2 : (progOf la o.t)[pv]? = some d := by rw [← hr, HPV.out]; simp
              have h3 := HNX.out _ h2
              rw [h3, hk, hi]
              exact ⟨r, rfl⟩
          · have h0 : ((l.getD q default).t == s && acc (l.getD q default).k) = false := by
              rw [← HO.out]
              have : (o.t == s) = false := by simpa using es
              rw [this]; rfl
            rw [progUp_no l s q hq h0]
            exact HPRE.out s hs
        have HPN : Hid (placed xs l (q + 1) = (placed xs l q).set t (pv + 1)) := by
          show _ = _
          have := placed_yes xs hx l q hq (by rw [← HO.out]; exact hac) (by rw [← HO.out]; exact hm)
          rw [← HO.out, ← HT.out, ← HPV.out] at this
          exact this
        clear hk hi
        go_quiet (fail)
        go_wp2_with fail
        refine bodyPost_ret (v := .tuple #[.int .i64 (xi : Int), .bool true]) (by simp [results, Yba.results42, go_sem]) rfl ?_
        refine ⟨HO4.out.drewN _, .inl ⟨.slice (some ⟨gy, 0, none⟩) ys.length c1, by rw [HR.out], ⟨rfl, ?_, ?_, Hxb4.out.drewN _, HSM4.out, HJN.out⟩, ?_⟩⟩
        · rw [HPN.out]; exact HJ4.out.drewN _
        · rw [← HNT.out]; exact Hpb4.out.drewN _
        · have e2' : vs.set 1 (.slice (some ⟨gy, 0, none⟩) ys.length c1) = vs := by
            apply List.ext_getElem?
            intro i
            by_cases h : 1 = i
            · subst h; rw [List.getElem?_set_self (by omega)]; exact HV1.out.symm
            · rw [List.getElem?_set_ne h]
          rw [e2']; exact HX4.out.drewN _
      · have hkb : (oa.k == o.k) = true := by simpa using hk
        have hib : (oa.i.toList == o.i.toList) = false := bytes_ne hi
        have HB : Hid (¬ ∀ t, t ∈ xs → progOf la t = progOf l t) := HBAD.out fun e => hi (by simpa using congrArg OpV.i e)
        clear hk hi
        go_quiet (fail)
        go_wp2_with fail
        refine bodyPost_ret (v := .tuple #[.int .i64 (xi : Int), .bool false]) (by simp [results, Yba.results42, go_sem]) rfl ?_
        exact ⟨HO4.out.drewN _, .inr ⟨_, rfl, HB.out⟩⟩
    · have hkb : (oa.k == o.k) = false := by simpa using hk
      have HB : Hid (¬ ∀ t, t ∈ xs → progOf la t = progOf l t) := HBAD.out fun e => hk (by simpa using congrArg OpV.k e)
      clear hk
      go_quiet (fail)
      go_wp2_with fail
      refine bodyPost_ret (v := .tuple #[.int .i64 (xi : Int), .bool false]) (by simp [results, Yba.results42, go_sem]) rfl ?_
      exact ⟨HO4.out.drewN _, .inr ⟨_, rfl, HB.out⟩⟩
end Go.Proofs.Ybulkebqk
