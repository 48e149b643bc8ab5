import JvmDerived
import JvmDerived.Pilot.@@N@@Statement
import JvmDerived.Pilot.@@N@@Code
set_option linter.unusedVariables false
set_option linter.unusedSimpArgs false
@@BLOCK:NumsL.lean.txt@@
namespace Jvm.Pilot.@@N@@
open Jvm Jvm.ClassFile Sem Op Lib Jvm.Free Jvm.Stand Jvm.LawKit Jvm.RoadKit Bundle Jvm.Pilot.@@N@@.Jvm.D
/-! 1. plain facts: numbers, bytes, an array of twelve bytes -/
theorem own_lt {i n : Nat} (h : i < n) (hn : n ≤ 255) : Int32.ofNat i < Int32.ofNat n := by
  rw [Int32.lt_iff_toInt_lt, Int32.toInt_ofNat_of_lt (by omega), Int32.toInt_ofNat_of_lt (by omega)]
  omega
theorem own_nn {n : Nat} (hn : n ≤ 255) : ¬ Int32.ofNat n < 0 := by
  rw [Int32.lt_iff_toInt_lt, Int32.toInt_ofNat_of_lt (by omega), show (0 : Int32).toInt = 0 from rfl]
  omega
theorem own_n32 {n : Nat} (hn : n ≤ 255) : (Int32.ofNat n).toNatClampNeg = n := by
  rw [Int32.toNatClampNeg, Int32.toInt_ofNat_of_lt (by omega)]; rfl
theorem own_one (i : Nat) : Int32.ofNat i + (1 : Int32) = Int32.ofNat (i + 1) := (Int32.ofNat_add i 1).symm
theorem own_nar (x : Int32) : nar .byte x.toInt8.toInt32 = x.toInt8.toInt32 := by simp [nar]
/-- the byte that put stores in turn i -/
def own_w (v : Int64) (n i : Int32) : Int32 := (((v.toUInt64 >>> (((8 : Int32) * ((n - (1 : Int32)) - i)) &&& 0x3f).toInt64.toUInt64).toInt64).toInt32).toInt8.toInt32
theorem own_w_nar (v : Int64) (n i : Int32) : own_w v n i = nar .byte ((((v.toUInt64 >>> (((8 : Int32) * ((n - (1 : Int32)) - i)) &&& 0x3f).toInt64.toUInt64).toInt64).toInt32).toInt8.toInt32) := (own_nar _).symm
/-- the byte that the law expects at place k -/
def own_e (f o n : Int32) (v : Int64) (k : Int32) : Int32 :=
  if k < o then (f + k).toInt8.toInt32 else if k < o + n then ((((v >>> (((8 : Int32) * (((o + n) - (1 : Int32)) - k)) &&& 0x3f).toInt64) &&& (255 : Int64)).toInt32).toInt8.toInt32) else (f + k).toInt8.toInt32
def own_ar (Z : State) (h : Heap) (a : Addr) (f : Nat → Int32) : Prop := ∃ cl : Cell, Arr Z h a cl .byte ∧ cl.slots.size = 12 ∧ ∀ j, j < 12 → cl.slots[j]? = some (.int (f j))
theorem own_ar_set {Z : State} {h h' : Heap} {a : Addr} {cl : Cell} {f : Nat → Int32} {j : Nat} {v : Int32} (A : Arr Z h a cl .byte) (S : cl.slots.size = 12) (H : ∀ j, j < 12 → cl.slots[j]? = some (.int (f j))) (hj : j < 12) (W : Wr h h' a j (.int v)) : own_ar Z h' a (fun i => if i = j then v else f i) := by
  refine ⟨cl.setSlot j (.int v), Arr.same W A, by rw [sz_set]; exact S, fun i hi => ?_⟩
  by_cases hij : i = j
  · subst hij; simp [Cell.setSlot, S, hi]
  · have hji : ¬ j = i := fun q => hij q.symm
    simp [Cell.setSlot, Array.getElem?_setIfInBounds, hij, hji, H i hi]
theorem own_inb {cl : Cell} (S : cl.slots.size = 12) {k : Int32} (h0 : ¬ k < 0) (h1 : k.toNatClampNeg < 12) : ¬ (k < 0 ∨ cl.slots.size ≤ k.toNatClampNeg) := by
  rw [S]; exact fun q => q.elim h0 (fun q => by omega)
/-- what the array holds when i turns of put are made -/
def own_g (f : Nat → Int32) (o n : Nat) (v : Int64) (i j : Nat) : Int32 := if o ≤ j ∧ j < o + i then own_w v (Int32.ofNat n) (Int32.ofNat (j - o)) else f j
theorem own_g_zero (f : Nat → Int32) (o n : Nat) (v : Int64) : own_g f o n v 0 = f := by
  funext j
  have h : ¬ (o ≤ j ∧ j < o + 0) := by omega
  simp only [own_g, if_neg h]
theorem own_g_step (f : Nat → Int32) (o n : Nat) (v : Int64) (i : Nat) : own_g f o n v (i + 1) = fun j => if j = o + i then own_w v (Int32.ofNat n) (Int32.ofNat i) else own_g f o n v i j := by
  funext j
  by_cases hj : j = o + i
  · subst hj
    have h : o ≤ o + i ∧ o + i < o + (i + 1) := by omega
    simp only [own_g, if_pos h, if_true, show o + i - o = i from by omega]
  · by_cases h : o ≤ j ∧ j < o + i
    · have h' : o ≤ j ∧ j < o + (i + 1) := by omega
      simp only [own_g, if_neg hj, if_pos h, if_pos h']
    · have h' : ¬ (o ≤ j ∧ j < o + (i + 1)) := by omega
      simp only [own_g, if_neg hj, if_neg h, if_neg h']
theorem own_twelve {P : Nat → Prop} (h0 : P 0) (h1 : P 1) (h2 : P 2) (h3 : P 3) (h4 : P 4) (h5 : P 5) (h6 : P 6) (h7 : P 7) (h8 : P 8) (h9 : P 9) (h10 : P 10) (h11 : P 11) : ∀ j, j < 12 → P j
  | 0, _ => h0
  | 1, _ => h1
  | 2, _ => h2
  | 3, _ => h3
  | 4, _ => h4
  | 5, _ => h5
  | 6, _ => h6
  | 7, _ => h7
  | 8, _ => h8
  | 9, _ => h9
  | 10, _ => h10
  | 11, _ => h11
  | _ + 12, h => absurd h (by omega)
theorem own_arv {Z : State} {h : Heap} {a : Addr} {k : ClassId} {vs : List Value} {d : Value} {f : Nat → Int32} (V : Arv Z h a k .byte (12 : Int32) vs d) (hl : ∀ j, j < 12 → vs.getD j d = .int (f j)) : own_ar Z h a f := by
  obtain ⟨cl, A, q, S, N, H, G⟩ := V
  have S' : cl.slots.size = 12 := by rw [S]; rfl
  exact ⟨cl, A, S', fun j hj => by rw [H j (by rw [S']; exact hj), hl j hj]⟩
theorem own_remI (y : Int32) (hy : 0 ≤ y.toInt) (m : Int32) (hm : 1 < m.toInt) : (y - y / m * m).toInt = y.toInt % m.toInt := by
  have hlt := y.toInt_lt
  have h1 : (y / m).toInt = y.toInt / m.toInt := by
    rw [Jvm.Kit.i32_div (by omega), Int.tdiv_eq_ediv_of_nonneg hy]
  have hd : y.toInt / m.toInt * m.toInt + y.toInt % m.toInt = y.toInt := Int.ediv_mul_add_emod _ _
  have hr0 : 0 ≤ y.toInt % m.toInt := Int.emod_nonneg _ (by omega)
  have hq0 : 0 ≤ y.toInt / m.toInt * m.toInt := Int.mul_nonneg (Int.ediv_nonneg hy (by omega)) (by omega)
  have h2 : (y / m * m).toInt = y.toInt / m.toInt * m.toInt := by
    rw [Jvm.Kit.i32_mul (by rw [h1]; omega) (by rw [h1]; omega), h1]
  rw [Jvm.Kit.i32_sub (by rw [h2]; omega) (by rw [h2]; omega), h2]
  omega
theorem own_mask31 (x : Int32) : 0 ≤ (x &&& (2147483647 : Int32)).toInt := by
  have e : (x &&& 2147483647).toInt = x.toInt % 2 ^ 31 := Jvm.Kit.i32_mask x 2147483647 (k := 31) (by decide) (by decide)
  rw [e]; omega
theorem own_small {y : Int32} {b : Nat} (h0 : 0 ≤ y.toInt) (h1 : y.toInt < b) : ∃ n : Nat, n < b ∧ y = Int32.ofNat n := by
  refine ⟨y.toInt.toNat, by omega, ?_⟩
  apply Int32.toInt_inj.mp
  have := y.toInt_lt
  rw [Int32.toInt_ofNat_of_lt (by omega)]
  omega
theorem own_rem9 (x : Int32) : ∃ n : Nat, n < 9 ∧ ((x &&& (2147483647 : Int32)) - (x &&& (2147483647 : Int32)) / (9 : Int32) * (9 : Int32)) = Int32.ofNat n := by
  have h := own_remI (x &&& (2147483647 : Int32)) (own_mask31 x) 9 (by decide)
  have e : (9 : Int32).toInt = 9 := by decide
  exact own_small (by rw [h, e]; omega) (by rw [h, e]; omega)
theorem own_rem5 (x : Int32) : ∃ n : Nat, n < 5 ∧ ((x &&& (2147483647 : Int32)) - (x &&& (2147483647 : Int32)) / (5 : Int32) * (5 : Int32)) = Int32.ofNat n := by
  have h := own_remI (x &&& (2147483647 : Int32)) (own_mask31 x) 5 (by decide)
  have e : (5 : Int32).toInt = 5 := by decide
  exact own_small (by rw [h, e]; omega) (by rw [h, e]; omega)
theorem own_sh_all : ((List.range 5).all fun o => (List.range 9).all fun n => (List.range 12).all fun k => !(decide (o ≤ k) && decide (k < o + n)) || (decide ((8 : Int32) * ((Int32.ofNat n - (1 : Int32)) - Int32.ofNat (k - o)) = Int32.ofNat (8 * (n - 1 - (k - o)))) && decide ((8 : Int32) * (((Int32.ofNat o + Int32.ofNat n) - (1 : Int32)) - Int32.ofNat k) = Int32.ofNat (8 * (n - 1 - (k - o)))))) = true := by decide +kernel
theorem own_sh (o : Nat) (ho : o < 5) (n : Nat) (hn : n < 9) (k : Nat) (hk : k < 12) (h1 : o ≤ k) (h2 : k < o + n) : ((8 : Int32) * ((Int32.ofNat n - (1 : Int32)) - Int32.ofNat (k - o)) = Int32.ofNat (8 * (n - 1 - (k - o)))) ∧ ((8 : Int32) * (((Int32.ofNat o + Int32.ofNat n) - (1 : Int32)) - Int32.ofNat k) = Int32.ofNat (8 * (n - 1 - (k - o)))) := by
  have h := List.all_eq_true.mp (List.all_eq_true.mp (List.all_eq_true.mp own_sh_all o (List.mem_range.mpr ho)) n (List.mem_range.mpr hn)) k (List.mem_range.mpr hk)
  simp only [decide_eq_true h1, decide_eq_true h2, Bool.and_self, Bool.not_true, Bool.false_or, Bool.and_eq_true, decide_eq_true_eq] at h
  exact h
theorem own_bv (b : BitVec 64) (n : Nat) (hn : n ≤ 56) : BitVec.signExtend 8 (BitVec.signExtend 32 (b >>> n)) = BitVec.signExtend 8 (BitVec.signExtend 32 (b.sshiftRight n &&& 255#64)) := by
  apply BitVec.eq_of_getElem_eq
  intro i hi
  have h64 : i < 64 := by omega
  have h255 : ∀ (j : Nat) (hj : j < 8), (255#8)[j] = true := by decide
  have h1 : n + i < 64 := by omega
  simp [BitVec.getElem_signExtend, BitVec.getElem_sshiftRight, show i < 32 by omega, h64, h1, h255 i hi]
theorem own_byte (v : Int64) : ∀ d, d < 8 → ((v.toUInt64 >>> ((Int32.ofNat (8 * d)) &&& 0x3f).toInt64.toUInt64).toInt64).toInt32.toInt8 = ((v >>> ((Int32.ofNat (8 * d)) &&& 0x3f).toInt64) &&& (255 : Int64)).toInt32.toInt8 := by
  have key : ∀ d, d < 8 → (((Int32.ofNat (8 * d)) &&& 0x3f).toInt64.toUInt64.toBitVec % 64).toNat = 8 * d ∧ (((Int32.ofNat (8 * d)) &&& 0x3f).toInt64.toBitVec.smod 64).toNat = 8 * d := by decide +kernel
  intro d hd
  apply Int8.toBitVec_inj.mp
  simp only [Int32.toBitVec_toInt8, Int64.toBitVec_toInt32, UInt64.toBitVec_toInt64, UInt64.toBitVec_shiftRight, Int64.toBitVec_and, Int64.toBitVec_shiftRight]
  show BitVec.signExtend 8 (BitVec.signExtend 32 (v.toBitVec >>> (((Int32.ofNat (8 * d)) &&& 0x3f).toInt64.toUInt64.toBitVec % 64).toNat)) = BitVec.signExtend 8 (BitVec.signExtend 32 (v.toBitVec.sshiftRight (((Int32.ofNat (8 * d)) &&& 0x3f).toInt64.toBitVec.smod 64).toNat &&& 255#64))
  rw [(key d hd).1, (key d hd).2]
  exact own_bv _ _ (by omega)
theorem own_law (p4 : Int32) (q2 : Int64) (o n : Nat) (ho : o < 5) (hn : n < 9) : ∀ k, k < 12 → own_g (fun j => (p4 + Int32.ofNat j).toInt8.toInt32) o n q2 n k = own_e p4 (Int32.ofNat o) (Int32.ofNat n) q2 (Int32.ofNat k) := by
  intro k hk
  have hadd : Int32.ofNat o + Int32.ofNat n = Int32.ofNat (o + n) := (Int32.ofNat_add o n).symm
  by_cases h1 : k < o
  · have h : ¬ (o ≤ k ∧ k < o + n) := by omega
    have h' : Int32.ofNat k < Int32.ofNat o := own_lt h1 (by omega)
    simp only [own_g, own_e, if_neg h, if_pos h']
  · have h1' : ¬ Int32.ofNat k < Int32.ofNat o := by
      rw [Int32.lt_iff_toInt_lt, Int32.toInt_ofNat_of_lt (by omega), Int32.toInt_ofNat_of_lt (by omega)]; omega
    by_cases h2 : k < o + n
    · have h : o ≤ k ∧ k < o + n := by omega
      have h2' : Int32.ofNat k < Int32.ofNat o + Int32.ofNat n := by rw [hadd]; exact own_lt h2 (by omega)
      obtain ⟨e1, e2⟩ := own_sh o ho n hn k hk h.1 h.2
      simp only [own_g, own_e, own_w, if_pos h, if_neg h1', if_pos h2', e1, e2]
      rw [own_byte q2 _ (by omega)]
    · have h : ¬ (o ≤ k ∧ k < o + n) := by omega
      have h2' : ¬ Int32.ofNat k < Int32.ofNat o + Int32.ofNat n := by
        rw [hadd, Int32.lt_iff_toInt_lt, Int32.toInt_ofNat_of_lt (by omega), Int32.toInt_ofNat_of_lt (by omega)]; omega
      simp only [own_g, own_e, if_neg h, if_neg h1', if_neg h2']

theorem d1_0 : decode prog_150_method_2_code 0 = .ok (.iconst 0, 1) := by decide +kernel
theorem d1_1 : decode prog_150_method_2_code 1 = .ok (.istore 5, 2) := by decide +kernel
theorem d1_3 : decode prog_150_method_2_code 3 = .ok (.iload 5, 2) := by decide +kernel
theorem d1_5 : decode prog_150_method_2_code 5 = .ok (.iload 4, 2) := by decide +kernel
theorem d1_7 : decode prog_150_method_2_code 7 = .ok (.if_icmp .ge 29, 3) := by decide +kernel
theorem d1_36 : decode prog_150_method_2_code 36 = .ok (.return_, 1) := by decide +kernel
theorem pn_1 : plainName "com/example/brindlemere/brindlemere/pages/BigEndian" = true := by first | (simp [plainName, overriddenIn]; done) | decide +kernel
theorem ef_1 (m : MethodId) (x0 : Addr) (x1 : Int32) (x2 : Int64) (x3 : Int32) : entryFrame m #[(.ref x0), (.int x1), (.long x2), (.int x3)] 6 = mkF m 0 #[.val (.ref x0), .val (.int x1), .val (.long x2), .second, .val (.int x3), .unset] [] := by first | (simp [entryFrame, mkF, argsToLocals, Value.category]; done) | rfl
theorem d1_10 : decode prog_150_method_2_code 10 = .ok (.aload_n 0, 1) := by decide +kernel
theorem d1_11 : decode prog_150_method_2_code 11 = .ok (.iload_n 1, 1) := by decide +kernel
theorem d1_12 : decode prog_150_method_2_code 12 = .ok (.iload 5, 2) := by decide +kernel
theorem d1_14 : decode prog_150_method_2_code 14 = .ok (.iadd, 1) := by decide +kernel
theorem d1_15 : decode prog_150_method_2_code 15 = .ok (.lload_n 2, 1) := by decide +kernel
theorem d1_16 : decode prog_150_method_2_code 16 = .ok (.bipush 8, 2) := by decide +kernel
theorem d1_18 : decode prog_150_method_2_code 18 = .ok (.iload 4, 2) := by decide +kernel
theorem d1_20 : decode prog_150_method_2_code 20 = .ok (.iconst 1, 1) := by decide +kernel
theorem d1_21 : decode prog_150_method_2_code 21 = .ok (.isub, 1) := by decide +kernel
theorem d1_22 : decode prog_150_method_2_code 22 = .ok (.iload 5, 2) := by decide +kernel
theorem d1_24 : decode prog_150_method_2_code 24 = .ok (.isub, 1) := by decide +kernel
theorem d1_25 : decode prog_150_method_2_code 25 = .ok (.imul, 1) := by decide +kernel
theorem d1_26 : decode prog_150_method_2_code 26 = .ok (.lushr, 1) := by decide +kernel
theorem d1_27 : decode prog_150_method_2_code 27 = .ok (.l2i, 1) := by decide +kernel
theorem d1_28 : decode prog_150_method_2_code 28 = .ok (.i2b, 1) := by decide +kernel
theorem d1_29 : decode prog_150_method_2_code 29 = .ok (.bastore, 1) := by decide +kernel
theorem d1_30 : decode prog_150_method_2_code 30 = .ok (.iinc 5 1, 3) := by decide +kernel
theorem d1_33 : decode prog_150_method_2_code 33 = .ok (.goto (-30), 3) := by decide +kernel
set_option maxRecDepth 65536 in
set_option maxHeartbeats 40000000 in
theorem tn1_3_3 {p : Program} {l : Launch} {e : Env} {R : Room} {s : State} {m : MethodId} {args : Array Value} {below : List Frame} {meth : Method} {c : Code} {T0 : State} {locs : List Loc} {cells slots : Nat} {Z : State} {a0 : Array Value} {h0 : Heap} (o0 : Addr) (i1 : Int32) (j2 : Int64) (i4 : Int32) (i5 : Int32) (cl_o0 : Cell) (n0 : Nat)
    (X0 : Stand p l e R s m args below meth c T0 locs cells slots) (hx : p.tables.exec = Jvm.exec) (hZ : Z.Warmed39 s.vm) (hw : ∀ d ∈ tables_1, d.before a0 Z = true) (hby : c.code = prog_150_method_2_code) (hml : c.maxLocals = 6) (hown : s.vm.findClass "com/example/brindlemere/brindlemere/pages/BigEndian" = some m.cls) (e0 : T0.heap = h0) (Ar_o0 : Arr Z h0 o0 cl_o0 .byte) (hin29 : ¬ ((i1 + i5) < 0 ∨ cl_o0.slots.size ≤ ((i1 + i5)).toNatClampNeg)) (g_o0 : n0 ≤ o0) (N0 : Fr n0 locs) (hc7 : i5 < i4) :
    ∃ (T' : State) (h' : Heap), Stand p l e R s m args below meth c T' (locs ++ [⟨o0, (i1 + i5).toNatClampNeg⟩]) cells slots ∧ T'.heap = h' ∧ Fr n0 (locs ++ [⟨o0, (i1 + i5).toNatClampNeg⟩]) ∧ Keep h0 h' [o0] ∧ Wr h0 h' o0 (i1 + i5).toNatClampNeg (.int (own_w j2 i4 i5)) ∧
      ∀ target, Steps p.tables e below (T'.setTop (mkF m 3 #[.val (.ref o0), .val (.int i1), .val (.long j2), .second, .val (.int i4), .val (.int (i5 + (1 : Int32)))] [])) target → Steps p.tables e below (T0.setTop (mkF m 3 #[.val (.ref o0), .val (.int i1), .val (.long j2), .second, .val (.int i4), .val (.int i5)] [])) target := by
  obtain ⟨T5, h5, X5, e5, W5, st5⟩ := stB X0 hx hZ e0 Ar_o0 (j := (i1 + i5)) hin29 (g := (mkF m 29 #[.val (.ref o0), .val (.int i1), .val (.long j2), .second, .val (.int i4), .val (.int i5)] [(.int ((((j2.toUInt64 >>> (((8 : Int32) * ((i4 - (1 : Int32)) - i5)) &&& 0x3f).toInt64.toUInt64).toInt64).toInt32).toInt8.toInt32)), (.int (i1 + i5)), (.ref o0)])) rfl rfl (hb hby d1_29)
  have N5 := Fr.snoc X5 N0 g_o0
  have K5 : Keep h0 h5 [o0] := (Keep.refl h0 [o0]).wr W5 (Or.inl (List.mem_of_getElem? (i := 0) rfl))
  have W5' : Wr h0 h5 o0 (i1 + i5).toNatClampNeg (.int (own_w j2 i4 i5)) := by rw [own_w_nar]; exact W5
  refine ⟨T5, _, X5, e5, N5, K5, W5', fun target kt => ?_⟩
  show Steps p.tables e below (T0.setTop (mkF m 3 #[.val (.ref o0), .val (.int i1), .val (.long j2), .second, .val (.int i4), .val (.int i5)] [])) _
  refine XS.iload X0.here hx rfl (hb hby d1_3) rfl ?_
  show Steps p.tables e below (T0.setTop (mkF m 5 #[.val (.ref o0), .val (.int i1), .val (.long j2), .second, .val (.int i4), .val (.int i5)] [(.int i5)])) _
  refine XS.iload X0.here hx rfl (hb hby d1_5) rfl ?_
  show Steps p.tables e below (T0.setTop (mkF m 7 #[.val (.ref o0), .val (.int i1), .val (.long j2), .second, .val (.int i4), .val (.int i5)] [(.int i4), (.int i5)])) _
  refine XS.icmpNo X0.here hx rfl (hb hby d1_7) rfl (tlt hc7).2.1 ?_
  show Steps p.tables e below (T0.setTop (mkF m 10 #[.val (.ref o0), .val (.int i1), .val (.long j2), .second, .val (.int i4), .val (.int i5)] [])) _
  refine XS.aloadN X0.here hx rfl (hb hby d1_10) rfl rfl ?_
  show Steps p.tables e below (T0.setTop (mkF m 11 #[.val (.ref o0), .val (.int i1), .val (.long j2), .second, .val (.int i4), .val (.int i5)] [(.ref o0)])) _
  refine XS.iloadN X0.here hx rfl (hb hby d1_11) rfl ?_
  show Steps p.tables e below (T0.setTop (mkF m 12 #[.val (.ref o0), .val (.int i1), .val (.long j2), .second, .val (.int i4), .val (.int i5)] [(.int i1), (.ref o0)])) _
  refine XS.iload X0.here hx rfl (hb hby d1_12) rfl ?_
  show Steps p.tables e below (T0.setTop (mkF m 14 #[.val (.ref o0), .val (.int i1), .val (.long j2), .second, .val (.int i4), .val (.int i5)] [(.int i5), (.int i1), (.ref o0)])) _
  refine XS.iadd X0.here hx rfl (hb hby d1_14) rfl ?_
  show Steps p.tables e below (T0.setTop (mkF m 15 #[.val (.ref o0), .val (.int i1), .val (.long j2), .second, .val (.int i4), .val (.int i5)] [(.int (i1 + i5)), (.ref o0)])) _
  refine XS.lloadN X0.here hx rfl (hb hby d1_15) rfl ?_
  show Steps p.tables e below (T0.setTop (mkF m 16 #[.val (.ref o0), .val (.int i1), .val (.long j2), .second, .val (.int i4), .val (.int i5)] [(.long j2), (.int (i1 + i5)), (.ref o0)])) _
  refine XS.bipush X0.here hx rfl (hb hby d1_16) ?_
  show Steps p.tables e below (T0.setTop (mkF m 18 #[.val (.ref o0), .val (.int i1), .val (.long j2), .second, .val (.int i4), .val (.int i5)] [(.int (8 : Int32)), (.long j2), (.int (i1 + i5)), (.ref o0)])) _
  refine XS.iload X0.here hx rfl (hb hby d1_18) rfl ?_
  show Steps p.tables e below (T0.setTop (mkF m 20 #[.val (.ref o0), .val (.int i1), .val (.long j2), .second, .val (.int i4), .val (.int i5)] [(.int i4), (.int (8 : Int32)), (.long j2), (.int (i1 + i5)), (.ref o0)])) _
  refine XS.iconst X0.here hx rfl (hb hby d1_20) ?_
  show Steps p.tables e below (T0.setTop (mkF m 21 #[.val (.ref o0), .val (.int i1), .val (.long j2), .second, .val (.int i4), .val (.int i5)] [(.int (1 : Int32)), (.int i4), (.int (8 : Int32)), (.long j2), (.int (i1 + i5)), (.ref o0)])) _
  refine XS.isub X0.here hx rfl (hb hby d1_21) rfl ?_
  show Steps p.tables e below (T0.setTop (mkF m 22 #[.val (.ref o0), .val (.int i1), .val (.long j2), .second, .val (.int i4), .val (.int i5)] [(.int (i4 - (1 : Int32))), (.int (8 : Int32)), (.long j2), (.int (i1 + i5)), (.ref o0)])) _
  refine XS.iload X0.here hx rfl (hb hby d1_22) rfl ?_
  show Steps p.tables e below (T0.setTop (mkF m 24 #[.val (.ref o0), .val (.int i1), .val (.long j2), .second, .val (.int i4), .val (.int i5)] [(.int i5), (.int (i4 - (1 : Int32))), (.int (8 : Int32)), (.long j2), (.int (i1 + i5)), (.ref o0)])) _
  refine XS.isub X0.here hx rfl (hb hby d1_24) rfl ?_
  show Steps p.tables e below (T0.setTop (mkF m 25 #[.val (.ref o0), .val (.int i1), .val (.long j2), .second, .val (.int i4), .val (.int i5)] [(.int ((i4 - (1 : Int32)) - i5)), (.int (8 : Int32)), (.long j2), (.int (i1 + i5)), (.ref o0)])) _
  refine XS.imul X0.here hx rfl (hb hby d1_25) rfl ?_
  show Steps p.tables e below (T0.setTop (mkF m 26 #[.val (.ref o0), .val (.int i1), .val (.long j2), .second, .val (.int i4), .val (.int i5)] [(.int ((8 : Int32) * ((i4 - (1 : Int32)) - i5))), (.long j2), (.int (i1 + i5)), (.ref o0)])) _
  refine XS.lushr X0.here hx rfl (hb hby d1_26) rfl ?_
  show Steps p.tables e below (T0.setTop (mkF m 27 #[.val (.ref o0), .val (.int i1), .val (.long j2), .second, .val (.int i4), .val (.int i5)] [(.long ((j2.toUInt64 >>> (((8 : Int32) * ((i4 - (1 : Int32)) - i5)) &&& 0x3f).toInt64.toUInt64).toInt64)), (.int (i1 + i5)), (.ref o0)])) _
  refine XS.l2i X0.here hx rfl (hb hby d1_27) rfl ?_
  show Steps p.tables e below (T0.setTop (mkF m 28 #[.val (.ref o0), .val (.int i1), .val (.long j2), .second, .val (.int i4), .val (.int i5)] [(.int (((j2.toUInt64 >>> (((8 : Int32) * ((i4 - (1 : Int32)) - i5)) &&& 0x3f).toInt64.toUInt64).toInt64).toInt32)), (.int (i1 + i5)), (.ref o0)])) _
  refine XS.i2b X0.here hx rfl (hb hby d1_28) rfl ?_
  show Steps p.tables e below (T0.setTop (mkF m 29 #[.val (.ref o0), .val (.int i1), .val (.long j2), .second, .val (.int i4), .val (.int i5)] [(.int ((((j2.toUInt64 >>> (((8 : Int32) * ((i4 - (1 : Int32)) - i5)) &&& 0x3f).toInt64.toUInt64).toInt64).toInt32).toInt8.toInt32)), (.int (i1 + i5)), (.ref o0)])) _
  refine st5 _ ?_
  show Steps p.tables e below (T5.setTop (mkF m 30 #[.val (.ref o0), .val (.int i1), .val (.long j2), .second, .val (.int i4), .val (.int i5)] [])) _
  refine XS.iinc X5.here hx rfl (hb hby d1_30) rfl (l' := #[.val (.ref o0), .val (.int i1), .val (.long j2), .second, .val (.int i4), .val (.int (i5 + (1 : Int32)))]) rfl ?_
  show Steps p.tables e below (T5.setTop (mkF m 33 #[.val (.ref o0), .val (.int i1), .val (.long j2), .second, .val (.int i4), .val (.int (i5 + (1 : Int32)))] [])) _
  refine XS.goto X5.here hx rfl (pc0 := 33) (pc' := 3) rfl (hb hby d1_33) (by decide) (by decide) ?_
  exact kt

set_option maxRecDepth 65536 in
set_option maxHeartbeats 40000000 in
theorem tn1_3_36 {p : Program} {l : Launch} {e : Env} {R : Room} {s : State} {m : MethodId} {args : Array Value} {below : List Frame} {meth : Method} {c : Code} {T0 : State} {locs : List Loc} {cells slots : Nat} {Z : State} {a0 : Array Value} {h0 : Heap} (s0 : Slot) (s1 : Slot) (s2 : Slot) (s3 : Slot) (i4 : Int32) (i5 : Int32)
    (X0 : Stand p l e R s m args below meth c T0 locs cells slots) (hx : p.tables.exec = Jvm.exec) (hZ : Z.Warmed39 s.vm) (hw : ∀ d ∈ tables_1, d.before a0 Z = true) (hby : c.code = prog_150_method_2_code) (hml : c.maxLocals = 6) (hown : s.vm.findClass "com/example/brindlemere/brindlemere/pages/BigEndian" = some m.cls) (e0 : T0.heap = h0) (hc7 : ¬ (i5 < i4)) :
    ∃ (T' : State), Stand p l e R s m args below meth c T' locs cells slots ∧ T'.heap = h0 ∧
      ∀ target, Steps p.tables e below (T'.setTop (mkF m 36 #[s0, s1, s2, s3, .val (.int i4), .val (.int i5)] [])) target → Steps p.tables e below (T0.setTop (mkF m 3 #[s0, s1, s2, s3, .val (.int i4), .val (.int i5)] [])) target := by

  refine ⟨T0, X0, e0, fun target kt => ?_⟩
  show Steps p.tables e below (T0.setTop (mkF m 3 #[s0, s1, s2, s3, .val (.int i4), .val (.int i5)] [])) _
  refine XS.iload X0.here hx rfl (hb hby d1_3) rfl ?_
  show Steps p.tables e below (T0.setTop (mkF m 5 #[s0, s1, s2, s3, .val (.int i4), .val (.int i5)] [(.int i5)])) _
  refine XS.iload X0.here hx rfl (hb hby d1_5) rfl ?_
  show Steps p.tables e below (T0.setTop (mkF m 7 #[s0, s1, s2, s3, .val (.int i4), .val (.int i5)] [(.int i4), (.int i5)])) _
  refine XS.icmpYes X0.here hx rfl (pc0 := 7) (pc' := 36) rfl (hb hby d1_7) rfl (flt hc7).2.1 (by decide) (by decide) ?_
  exact kt

/-- **put's LOOP, WHOLE** -/
theorem loop1 {p : Program} {l : Launch} {e : Env} {R : Room} {s : State} {m : MethodId} {args : Array Value} {below : List Frame} {meth : Method} {c : Code} {cells slots : Nat} {Z : State} {a0 : Array Value} (o0 : Addr) (o n : Nat) (v : Int64) (f : Nat → Int32) (ho : o + n ≤ 12) (n0 : Nat) (g_o0 : n0 ≤ o0) (hx : p.tables.exec = Jvm.exec) (hZ : Z.Warmed39 s.vm) (hw : ∀ d ∈ tables_1, d.before a0 Z = true) (hby : c.code = prog_150_method_2_code) (hml : c.maxLocals = 6) (hown : s.vm.findClass "com/example/brindlemere/brindlemere/pages/BigEndian" = some m.cls) :
    ∀ (k i : Nat) (T0 : State) (h0 : Heap) (locs : List Loc), i + k = n → Stand p l e R s m args below meth c T0 locs cells slots → T0.heap = h0 → Fr n0 locs → own_ar Z h0 o0 (own_g f o n v i) →
      ∃ (T' : State) (h' : Heap) (locs' : List Loc), Stand p l e R s m args below meth c T' locs' cells slots ∧ T'.heap = h' ∧ Fr n0 locs' ∧ Keep h0 h' [o0] ∧ own_ar Z h' o0 (own_g f o n v n) ∧
        ∀ target, Steps p.tables e below (T'.setTop (mkF m 36 #[.val (.ref o0), .val (.int (Int32.ofNat o)), .val (.long v), .second, .val (.int (Int32.ofNat n)), .val (.int (Int32.ofNat n))] [])) target → Steps p.tables e below (T0.setTop (mkF m 3 #[.val (.ref o0), .val (.int (Int32.ofNat o)), .val (.long v), .second, .val (.int (Int32.ofNat n)), .val (.int (Int32.ofNat i))] [])) target := by
  intro k
  induction k with
  | zero =>
    intro i T0 h0 locs hi X0 e0 N V
    have hi' : i = n := by omega
    rw [hi'] at V
    obtain ⟨T1, X1, e1, st1⟩ := tn1_3_36 (.val (.ref o0)) (.val (.int (Int32.ofNat o))) (.val (.long v)) .second (Int32.ofNat n) (Int32.ofNat n) X0 hx hZ hw hby hml hown e0 Int32.lt_irrefl
    refine ⟨T1, h0, locs, X1, e1, N, Keep.refl _ _, V, fun target h => ?_⟩
    rw [hi']
    exact st1 target h
  | succ k ih =>
    intro i T0 h0 locs hi X0 e0 N V
    obtain ⟨cl, A, S, H⟩ := V
    have hsum : Int32.ofNat o + Int32.ofNat i = Int32.ofNat (o + i) := (Int32.ofNat_add o i).symm
    have hplace : (Int32.ofNat o + Int32.ofNat i).toNatClampNeg = o + i := by rw [hsum]; exact own_n32 (by omega)
    have hin : ¬ ((Int32.ofNat o + Int32.ofNat i) < 0 ∨ cl.slots.size ≤ (Int32.ofNat o + Int32.ofNat i).toNatClampNeg) := by
      rw [S, hplace]
      exact fun q => q.elim (by rw [hsum]; exact own_nn (by omega)) (fun q => by omega)
    obtain ⟨T1, h1, X1, e1, N1, K1, W1, st1⟩ := tn1_3_3 o0 (Int32.ofNat o) v (Int32.ofNat n) (Int32.ofNat i) cl n0 X0 hx hZ hw hby hml hown e0 A hin g_o0 N (own_lt (by omega) (by omega))
    rw [hplace] at W1
    have V1 : own_ar Z h1 o0 (own_g f o n v (i + 1)) := by rw [own_g_step]; exact own_ar_set A S H (by omega) W1
    obtain ⟨T', h', L', X', e', N', K', V', st⟩ := ih (i + 1) T1 h1 _ (by omega) X1 e1 N1 V1
    refine ⟨T', h', L', X', e', N', K1.trans K' (fun x hx => Or.inl hx), V', fun target h => st1 target ?_⟩
    rw [own_one]
    exact st target h
def Q1 (Z : State) (a1 : Addr) (o n : Nat) (q3 : Int64) (f : Nat → Int32) (h0 : Heap) (n0 : Nat) (v : Option Value) (h : Heap) (L : List Loc) : Prop := v = none ∧ Fr n0 L ∧ Keep h0 h [a1] ∧ own_ar Z h a1 (own_g f o n q3 n)
set_option maxRecDepth 65536 in
set_option maxHeartbeats 40000000 in
theorem rm1 (l : Launch) (Z : State) (a0 : Array Value) (hw : ∀ d ∈ tables_1, d.before a0 Z = true) (ws : List Jvm.Cond) (a1 : Addr) (ov nv : Nat) (q3 : Int64) (f : Nat → Int32) (h0 : Heap) (n0 : Nat) (Z0 : n0 ≤ h0.size) (ho : ov + nv ≤ 12) (g_a1 : n0 ≤ a1) (V : own_ar Z h0 a1 f) :
    MetFree l (⟨"com/example/brindlemere/brindlemere/pages/BigEndian", "put", "([BIJI)V"⟩ : MethodName) (head1 (Jvm.Cond.code (⟨"com/example/brindlemere/brindlemere/pages/BigEndian", "put", "([BIJI)V"⟩ : MethodName) prog_150_method_2_code 6 none :: ws) ({ frames := 0, cells := 0, slots := 0, locals := 0 } : Room)) (fun a U => a = #[(.ref a1), (.int (Int32.ofNat ov)), (.long q3), (.int (Int32.ofNat nv))] ∧ Z.Warmed39 U.vm ∧ U.heap = h0) (fun _ _ _ _ _ => True) (fun _ U o U' => ∃ v L, o = .returned v ∧ Q1 Z a1 ov nv q3 f h0 n0 v U'.heap L ∧ FrameEnd U o U' L ({ frames := 0, cells := 0, slots := 0, locals := 0 } : Room).cells ({ frames := 0, cells := 0, slots := 0, locals := 0 } : Room).slots) := by
  refine MetFree.of_bodySF (plainFor_of_name pn_1) hisR ?_
  intro p e s m args below meth c s₁ Bd hml0 hP hK
  obtain ⟨rfl, hZ, hh⟩ := hP
  have hx := Bd.exec
  have hby := Bd.bytes
  have hml : c.maxLocals = 6 := hml0
  have hown : s.vm.findClass "com/example/brindlemere/brindlemere/pages/BigEndian" = some m.cls := findClass_of_methodNamed Bd.named
  have hnm := (name_of_methodNamed Bd.named Bd.method).1
  have X0 : Stand p l e ({ frames := 0, cells := 0, slots := 0, locals := 0 } : Room) s m #[(.ref a1), (.int (Int32.ofNat ov)), (.long q3), (.int (Int32.ofNat nv))] below meth c s₁ [] 0 0 := Stand.of_body Bd
  have e0 : s₁.heap = h0 := by rw [← hh, Bd.state]; rfl
  have N0 := Fr.nil n0
  have pre0 : ∀ t, Steps p.tables e below (s₁.setTop (mkF m 0 #[.val (.ref a1), .val (.int (Int32.ofNat ov)), .val (.long q3), .second, .val (.int (Int32.ofNat nv)), .unset] [])) t → Steps p.tables e below (s₁.setTop (entryFrame m #[(.ref a1), (.int (Int32.ofNat ov)), (.long q3), (.int (Int32.ofNat nv))] 6)) t := fun t k => castTop (ef_1 m a1 (Int32.ofNat ov) q3 (Int32.ofNat nv)) k

  have V0 : own_ar Z h0 a1 (own_g f ov nv q3 0) := by rw [own_g_zero]; exact V
  obtain ⟨TL, hL, LL, XL, eL, NL, KL, VL, stL⟩ := loop1 a1 ov nv q3 f ho n0 g_a1 hx hZ hw hby hml hown nv 0 s₁ h0 _ (by omega) X0 e0 N0 V0
  obtain ⟨fs, hr, hrun, hended, hW, hsame⟩ := XL.leave (v := none) (fun _ => rfl)
  refine ⟨_, _, pre0 _ ?_, hrun, hended, _, _, rfl, ?_, ⟨_, rfl⟩, hW, hsame.mono (by decide) (by decide)⟩
  · show Steps p.tables e below (s₁.setTop (mkF m 0 #[.val (.ref a1), .val (.int (Int32.ofNat ov)), .val (.long q3), .second, .val (.int (Int32.ofNat nv)), .unset] [])) _
    refine XS.iconst X0.here hx rfl (hb hby d1_0) ?_
    show Steps p.tables e below (s₁.setTop (mkF m 1 #[.val (.ref a1), .val (.int (Int32.ofNat ov)), .val (.long q3), .second, .val (.int (Int32.ofNat nv)), .unset] [(.int (0 : Int32))])) _
    refine XS.istore X0.here hx rfl (hb hby d1_1) rfl (l' := #[.val (.ref a1), .val (.int (Int32.ofNat ov)), .val (.long q3), .second, .val (.int (Int32.ofNat nv)), .val (.int (0 : Int32))]) rfl ?_
    show Steps p.tables e below (s₁.setTop (mkF m 3 #[.val (.ref a1), .val (.int (Int32.ofNat ov)), .val (.long q3), .second, .val (.int (Int32.ofNat nv)), .val (.int (0 : Int32))] [])) _
    refine stL _ ?_
    exact XL.returnOut hx Bd.returns (hb hby d1_36) hr
  · show Q1 Z a1 ov nv q3 f h0 n0 _ TL.heap _
    rw [eL]
    exact ⟨rfl, NL, KL, VL⟩
theorem d2_0 : decode method_2_code 0 = .ok (.iload_n 1, 1) := by decide +kernel
theorem d2_1 : decode method_2_code 1 = .ok (.iload_n 2, 1) := by decide +kernel
theorem d2_2 : decode method_2_code 2 = .ok (.if_icmp .lt 11, 3) := by decide +kernel
theorem d2_13 : decode method_2_code 13 = .ok (.iload 6, 2) := by decide +kernel
theorem d2_15 : decode method_2_code 15 = .ok (.iload_n 1, 1) := by decide +kernel
theorem d2_16 : decode method_2_code 16 = .ok (.iadd, 1) := by decide +kernel
theorem d2_17 : decode method_2_code 17 = .ok (.i2b, 1) := by decide +kernel
theorem d2_18 : decode method_2_code 18 = .ok (.istore 7, 2) := by decide +kernel
theorem d2_20 : decode method_2_code 20 = .ok (.goto 28, 3) := by decide +kernel
theorem d2_48 : decode method_2_code 48 = .ok (.aload_n 0, 1) := by decide +kernel
theorem d2_49 : decode method_2_code 49 = .ok (.iload_n 1, 1) := by decide +kernel
theorem d2_50 : decode method_2_code 50 = .ok (.baload, 1) := by decide +kernel
theorem d2_51 : decode method_2_code 51 = .ok (.iload 7, 2) := by decide +kernel
theorem d2_53 : decode method_2_code 53 = .ok (.if_icmp .ne 7, 3) := by decide +kernel
theorem d2_56 : decode method_2_code 56 = .ok (.iconst 1, 1) := by decide +kernel
theorem d2_57 : decode method_2_code 57 = .ok (.goto 4, 3) := by decide +kernel
theorem d2_61 : decode method_2_code 61 = .ok (.ireturn, 1) := by decide +kernel
theorem pn_2 : plainName "com/example/brindlemere/brindlemere/pages/BigEndianPutPinLaw" = true := by first | (simp [plainName, overriddenIn]; done) | decide +kernel
theorem ef_2 (m : MethodId) (x0 : Addr) (x1 : Int32) (x2 : Int32) (x3 : Int64) (x4 : Int32) (x5 : Int32) : entryFrame m #[(.ref x0), (.int x1), (.int x2), (.long x3), (.int x4), (.int x5)] 9 = mkF m 0 #[.val (.ref x0), .val (.int x1), .val (.int x2), .val (.long x3), .second, .val (.int x4), .val (.int x5), .unset, .unset] [] := by first | (simp [entryFrame, mkF, argsToLocals, Value.category]; done) | rfl
theorem d2_5 : decode method_2_code 5 = .ok (.iload_n 1, 1) := by decide +kernel
theorem d2_6 : decode method_2_code 6 = .ok (.iload_n 2, 1) := by decide +kernel
theorem d2_7 : decode method_2_code 7 = .ok (.iload 5, 2) := by decide +kernel
theorem d2_9 : decode method_2_code 9 = .ok (.iadd, 1) := by decide +kernel
theorem d2_10 : decode method_2_code 10 = .ok (.if_icmp .lt 13, 3) := by decide +kernel
theorem d2_23 : decode method_2_code 23 = .ok (.iload_n 2, 1) := by decide +kernel
theorem d2_24 : decode method_2_code 24 = .ok (.iload 5, 2) := by decide +kernel
theorem d2_26 : decode method_2_code 26 = .ok (.iadd, 1) := by decide +kernel
theorem d2_27 : decode method_2_code 27 = .ok (.iconst 1, 1) := by decide +kernel
theorem d2_28 : decode method_2_code 28 = .ok (.isub, 1) := by decide +kernel
theorem d2_29 : decode method_2_code 29 = .ok (.iload_n 1, 1) := by decide +kernel
theorem d2_30 : decode method_2_code 30 = .ok (.isub, 1) := by decide +kernel
theorem d2_31 : decode method_2_code 31 = .ok (.istore 8, 2) := by decide +kernel
theorem d2_33 : decode method_2_code 33 = .ok (.lload_n 3, 1) := by decide +kernel
theorem d2_34 : decode method_2_code 34 = .ok (.bipush 8, 2) := by decide +kernel
theorem d2_36 : decode method_2_code 36 = .ok (.iload 8, 2) := by decide +kernel
theorem d2_38 : decode method_2_code 38 = .ok (.imul, 1) := by decide +kernel
theorem d2_39 : decode method_2_code 39 = .ok (.lshr, 1) := by decide +kernel
theorem d2_40 : decode method_2_code 40 = .ok (.ldc2_w 7, 3) := by decide +kernel
theorem d2_43 : decode method_2_code 43 = .ok (.land, 1) := by decide +kernel
theorem d2_44 : decode method_2_code 44 = .ok (.l2i, 1) := by decide +kernel
theorem d2_45 : decode method_2_code 45 = .ok (.i2b, 1) := by decide +kernel
theorem d2_46 : decode method_2_code 46 = .ok (.istore 7, 2) := by decide +kernel
def Q2 (Z : State) (a1 : Addr) (p2 : Int32) (p3 : Int32) (q4 : Int64) (p5 : Int32) (p6 : Int32) (w7 : Int32) (cl_a1 : Cell) (h0 : Heap) (n0 : Nat) (v : Option Value) (h : Heap) (L : List Loc) : Prop := v = some (.int (1 : Int32)) ∧ Fr n0 L ∧ h = h0
set_option maxRecDepth 65536 in
set_option maxHeartbeats 40000000 in
theorem rm2a (l : Launch) (Z : State) (a0 : Array Value) (hw : ∀ d ∈ tables_1, d.before a0 Z = true) (ws : List Jvm.Cond) (a1 : Addr) (p2 : Int32) (p3 : Int32) (q4 : Int64) (p5 : Int32) (p6 : Int32) (w7 : Int32) (cl_a1 : Cell) (h0 : Heap) (n0 : Nat) (Z0 : n0 ≤ h0.size) (Ar_a1 : Arr Z h0 a1 cl_a1 .byte) (hin50 : ¬ (p2 < 0 ∨ cl_a1.slots.size ≤ (p2).toNatClampNeg)) (hat50 : cl_a1.slots[(p2).toNatClampNeg]? = some (.int w7)) (hc2 : p2 < p3) (hc53 : w7 = ((p6 + p2).toInt8.toInt32)) :
    MetFree l (⟨"com/example/brindlemere/brindlemere/pages/BigEndianPutPinLaw", "ok", "([BIIJII)Z"⟩ : MethodName) (head1 (Jvm.Cond.code (⟨"com/example/brindlemere/brindlemere/pages/BigEndianPutPinLaw", "ok", "([BIIJII)Z"⟩ : MethodName) method_2_code 9 (some .boolean) :: ws) ({ frames := 0, cells := 0, slots := 0, locals := 0 } : Room)) (fun a U => a = #[(.ref a1), (.int p2), (.int p3), (.long q4), (.int p5), (.int p6)] ∧ Z.Warmed39 U.vm ∧ U.heap = h0) (fun _ _ _ _ _ => True) (fun _ U o U' => ∃ v L, o = .returned v ∧ Q2 Z a1 p2 p3 q4 p5 p6 w7 cl_a1 h0 n0 v U'.heap L ∧ FrameEnd U o U' L ({ frames := 0, cells := 0, slots := 0, locals := 0 } : Room).cells ({ frames := 0, cells := 0, slots := 0, locals := 0 } : Room).slots) := by
  refine MetFree.of_bodySF (plainFor_of_name pn_2) hisR ?_
  intro p e s m args below meth c s₁ Bd hml0 hP hK
  obtain ⟨rfl, hZ, hh⟩ := hP
  have hx := Bd.exec
  have hby := Bd.bytes
  have hml : c.maxLocals = 9 := hml0
  have hown : s.vm.findClass "com/example/brindlemere/brindlemere/pages/BigEndianPutPinLaw" = some m.cls := findClass_of_methodNamed Bd.named
  have hnm := (name_of_methodNamed Bd.named Bd.method).1
  have X0 : Stand p l e ({ frames := 0, cells := 0, slots := 0, locals := 0 } : Room) s m #[(.ref a1), (.int p2), (.int p3), (.long q4), (.int p5), (.int p6)] below meth c s₁ [] 0 0 := Stand.of_body Bd
  have e0 : s₁.heap = h0 := by rw [← hh, Bd.state]; rfl
  have N0 := Fr.nil n0
  have pre0 : ∀ t, Steps p.tables e below (s₁.setTop (mkF m 0 #[.val (.ref a1), .val (.int p2), .val (.int p3), .val (.long q4), .second, .val (.int p5), .val (.int p6), .unset, .unset] [])) t → Steps p.tables e below (s₁.setTop (entryFrame m #[(.ref a1), (.int p2), (.int p3), (.long q4), (.int p5), (.int p6)] 9)) t := fun t k => castTop (ef_2 m a1 p2 p3 q4 p5 p6) k

  obtain ⟨fs, hr, hrun, hended, hW, hsame⟩ := X0.leave (v := some (.int (1 : Int32))) (fun h => by rw [Bd.returns] at h; cases h)
  refine ⟨_, _, pre0 _ ?_, hrun, hended, _, _, rfl, ?_, ⟨_, rfl⟩, hW, hsame.mono (by decide) (by decide)⟩
  · show Steps p.tables e below (s₁.setTop (mkF m 0 #[.val (.ref a1), .val (.int p2), .val (.int p3), .val (.long q4), .second, .val (.int p5), .val (.int p6), .unset, .unset] [])) _
    refine XS.iloadN X0.here hx rfl (hb hby d2_0) rfl ?_
    show Steps p.tables e below (s₁.setTop (mkF m 1 #[.val (.ref a1), .val (.int p2), .val (.int p3), .val (.long q4), .second, .val (.int p5), .val (.int p6), .unset, .unset] [(.int p2)])) _
    refine XS.iloadN X0.here hx rfl (hb hby d2_1) rfl ?_
    show Steps p.tables e below (s₁.setTop (mkF m 2 #[.val (.ref a1), .val (.int p2), .val (.int p3), .val (.long q4), .second, .val (.int p5), .val (.int p6), .unset, .unset] [(.int p3), (.int p2)])) _
    refine XS.icmpYes X0.here hx rfl (pc0 := 2) (pc' := 13) rfl (hb hby d2_2) rfl (tlt hc2).1 (by decide) (by decide) ?_
    show Steps p.tables e below (s₁.setTop (mkF m 13 #[.val (.ref a1), .val (.int p2), .val (.int p3), .val (.long q4), .second, .val (.int p5), .val (.int p6), .unset, .unset] [])) _
    refine XS.iload X0.here hx rfl (hb hby d2_13) rfl ?_
    show Steps p.tables e below (s₁.setTop (mkF m 15 #[.val (.ref a1), .val (.int p2), .val (.int p3), .val (.long q4), .second, .val (.int p5), .val (.int p6), .unset, .unset] [(.int p6)])) _
    refine XS.iloadN X0.here hx rfl (hb hby d2_15) rfl ?_
    show Steps p.tables e below (s₁.setTop (mkF m 16 #[.val (.ref a1), .val (.int p2), .val (.int p3), .val (.long q4), .second, .val (.int p5), .val (.int p6), .unset, .unset] [(.int p2), (.int p6)])) _
    refine XS.iadd X0.here hx rfl (hb hby d2_16) rfl ?_
    show Steps p.tables e below (s₁.setTop (mkF m 17 #[.val (.ref a1), .val (.int p2), .val (.int p3), .val (.long q4), .second, .val (.int p5), .val (.int p6), .unset, .unset] [(.int (p6 + p2))])) _
    refine XS.i2b X0.here hx rfl (hb hby d2_17) rfl ?_
    show Steps p.tables e below (s₁.setTop (mkF m 18 #[.val (.ref a1), .val (.int p2), .val (.int p3), .val (.long q4), .second, .val (.int p5), .val (.int p6), .unset, .unset] [(.int ((p6 + p2).toInt8.toInt32))])) _
    refine XS.istore X0.here hx rfl (hb hby d2_18) rfl (l' := #[.val (.ref a1), .val (.int p2), .val (.int p3), .val (.long q4), .second, .val (.int p5), .val (.int p6), .val (.int ((p6 + p2).toInt8.toInt32)), .unset]) rfl ?_
    show Steps p.tables e below (s₁.setTop (mkF m 20 #[.val (.ref a1), .val (.int p2), .val (.int p3), .val (.long q4), .second, .val (.int p5), .val (.int p6), .val (.int ((p6 + p2).toInt8.toInt32)), .unset] [])) _
    refine XS.goto X0.here hx rfl (pc0 := 20) (pc' := 48) rfl (hb hby d2_20) (by decide) (by decide) ?_
    show Steps p.tables e below (s₁.setTop (mkF m 48 #[.val (.ref a1), .val (.int p2), .val (.int p3), .val (.long q4), .second, .val (.int p5), .val (.int p6), .val (.int ((p6 + p2).toInt8.toInt32)), .unset] [])) _
    refine XS.aloadN X0.here hx rfl (hb hby d2_48) rfl rfl ?_
    show Steps p.tables e below (s₁.setTop (mkF m 49 #[.val (.ref a1), .val (.int p2), .val (.int p3), .val (.long q4), .second, .val (.int p5), .val (.int p6), .val (.int ((p6 + p2).toInt8.toInt32)), .unset] [(.ref a1)])) _
    refine XS.iloadN X0.here hx rfl (hb hby d2_49) rfl ?_
    show Steps p.tables e below (s₁.setTop (mkF m 50 #[.val (.ref a1), .val (.int p2), .val (.int p3), .val (.long q4), .second, .val (.int p5), .val (.int p6), .val (.int ((p6 + p2).toInt8.toInt32)), .unset] [(.int p2), (.ref a1)])) _
    refine X0.baloadBytes hx (j := p2) (v := (.int w7)) (by rw [e0]; exact Ar_a1.1) (State.isArrayOf_alike hZ.alike Ar_a1.2.1) Ar_a1.2.2 hin50 hat50 (g := (mkF m 50 #[.val (.ref a1), .val (.int p2), .val (.int p3), .val (.long q4), .second, .val (.int p5), .val (.int p6), .val (.int ((p6 + p2).toInt8.toInt32)), .unset] [(.int p2), (.ref a1)])) rfl rfl (hb hby d2_50) _ ?_
    show Steps p.tables e below (s₁.setTop (mkF m 51 #[.val (.ref a1), .val (.int p2), .val (.int p3), .val (.long q4), .second, .val (.int p5), .val (.int p6), .val (.int ((p6 + p2).toInt8.toInt32)), .unset] [(.int w7)])) _
    refine XS.iload X0.here hx rfl (hb hby d2_51) rfl ?_
    show Steps p.tables e below (s₁.setTop (mkF m 53 #[.val (.ref a1), .val (.int p2), .val (.int p3), .val (.long q4), .second, .val (.int p5), .val (.int p6), .val (.int ((p6 + p2).toInt8.toInt32)), .unset] [(.int ((p6 + p2).toInt8.toInt32)), (.int w7)])) _
    refine XS.icmpNo X0.here hx rfl (hb hby d2_53) rfl (teq hc53).2 ?_
    show Steps p.tables e below (s₁.setTop (mkF m 56 #[.val (.ref a1), .val (.int p2), .val (.int p3), .val (.long q4), .second, .val (.int p5), .val (.int p6), .val (.int ((p6 + p2).toInt8.toInt32)), .unset] [])) _
    refine XS.iconst X0.here hx rfl (hb hby d2_56) ?_
    show Steps p.tables e below (s₁.setTop (mkF m 57 #[.val (.ref a1), .val (.int p2), .val (.int p3), .val (.long q4), .second, .val (.int p5), .val (.int p6), .val (.int ((p6 + p2).toInt8.toInt32)), .unset] [(.int (1 : Int32))])) _
    refine XS.goto X0.here hx rfl (pc0 := 57) (pc' := 61) rfl (hb hby d2_57) (by decide) (by decide) ?_
    show Steps p.tables e below (s₁.setTop (mkF m 61 #[.val (.ref a1), .val (.int p2), .val (.int p3), .val (.long q4), .second, .val (.int p5), .val (.int p6), .val (.int ((p6 + p2).toInt8.toInt32)), .unset] [(.int (1 : Int32))])) _
    exact retN X0 hx (t := .boolean) Bd.returns (by simp) (hb hby d2_61) hr
  · show Q2 Z a1 p2 p3 q4 p5 p6 w7 cl_a1 h0 n0 _ s₁.heap _
    rw [e0]
    exact ⟨rfl, N0, rfl⟩

set_option maxRecDepth 65536 in
set_option maxHeartbeats 40000000 in
theorem rm2b (l : Launch) (Z : State) (a0 : Array Value) (hw : ∀ d ∈ tables_1, d.before a0 Z = true) (ws : List Jvm.Cond) (a1 : Addr) (p2 : Int32) (p3 : Int32) (q4 : Int64) (p5 : Int32) (p6 : Int32) (w7 : Int32) (cl_a1 : Cell) (h0 : Heap) (n0 : Nat) (Z0 : n0 ≤ h0.size) (Ar_a1 : Arr Z h0 a1 cl_a1 .byte) (hin50 : ¬ (p2 < 0 ∨ cl_a1.slots.size ≤ (p2).toNatClampNeg)) (hat50 : cl_a1.slots[(p2).toNatClampNeg]? = some (.int w7)) (hc2 : ¬ (p2 < p3)) (hc10 : ¬ (p2 < (p3 + p5))) (hc53 : w7 = ((p6 + p2).toInt8.toInt32)) :
    MetFree l (⟨"com/example/brindlemere/brindlemere/pages/BigEndianPutPinLaw", "ok", "([BIIJII)Z"⟩ : MethodName) (head1 (Jvm.Cond.code (⟨"com/example/brindlemere/brindlemere/pages/BigEndianPutPinLaw", "ok", "([BIIJII)Z"⟩ : MethodName) method_2_code 9 (some .boolean) :: ws) ({ frames := 0, cells := 0, slots := 0, locals := 0 } : Room)) (fun a U => a = #[(.ref a1), (.int p2), (.int p3), (.long q4), (.int p5), (.int p6)] ∧ Z.Warmed39 U.vm ∧ U.heap = h0) (fun _ _ _ _ _ => True) (fun _ U o U' => ∃ v L, o = .returned v ∧ Q2 Z a1 p2 p3 q4 p5 p6 w7 cl_a1 h0 n0 v U'.heap L ∧ FrameEnd U o U' L ({ frames := 0, cells := 0, slots := 0, locals := 0 } : Room).cells ({ frames := 0, cells := 0, slots := 0, locals := 0 } : Room).slots) := by
  refine MetFree.of_bodySF (plainFor_of_name pn_2) hisR ?_
  intro p e s m args below meth c s₁ Bd hml0 hP hK
  obtain ⟨rfl, hZ, hh⟩ := hP
  have hx := Bd.exec
  have hby := Bd.bytes
  have hml : c.maxLocals = 9 := hml0
  have hown : s.vm.findClass "com/example/brindlemere/brindlemere/pages/BigEndianPutPinLaw" = some m.cls := findClass_of_methodNamed Bd.named
  have hnm := (name_of_methodNamed Bd.named Bd.method).1
  have X0 : Stand p l e ({ frames := 0, cells := 0, slots := 0, locals := 0 } : Room) s m #[(.ref a1), (.int p2), (.int p3), (.long q4), (.int p5), (.int p6)] below meth c s₁ [] 0 0 := Stand.of_body Bd
  have e0 : s₁.heap = h0 := by rw [← hh, Bd.state]; rfl
  have N0 := Fr.nil n0
  have pre0 : ∀ t, Steps p.tables e below (s₁.setTop (mkF m 0 #[.val (.ref a1), .val (.int p2), .val (.int p3), .val (.long q4), .second, .val (.int p5), .val (.int p6), .unset, .unset] [])) t → Steps p.tables e below (s₁.setTop (entryFrame m #[(.ref a1), (.int p2), (.int p3), (.long q4), (.int p5), (.int p6)] 9)) t := fun t k => castTop (ef_2 m a1 p2 p3 q4 p5 p6) k

  obtain ⟨fs, hr, hrun, hended, hW, hsame⟩ := X0.leave (v := some (.int (1 : Int32))) (fun h => by rw [Bd.returns] at h; cases h)
  refine ⟨_, _, pre0 _ ?_, hrun, hended, _, _, rfl, ?_, ⟨_, rfl⟩, hW, hsame.mono (by decide) (by decide)⟩
  · show Steps p.tables e below (s₁.setTop (mkF m 0 #[.val (.ref a1), .val (.int p2), .val (.int p3), .val (.long q4), .second, .val (.int p5), .val (.int p6), .unset, .unset] [])) _
    refine XS.iloadN X0.here hx rfl (hb hby d2_0) rfl ?_
    show Steps p.tables e below (s₁.setTop (mkF m 1 #[.val (.ref a1), .val (.int p2), .val (.int p3), .val (.long q4), .second, .val (.int p5), .val (.int p6), .unset, .unset] [(.int p2)])) _
    refine XS.iloadN X0.here hx rfl (hb hby d2_1) rfl ?_
    show Steps p.tables e below (s₁.setTop (mkF m 2 #[.val (.ref a1), .val (.int p2), .val (.int p3), .val (.long q4), .second, .val (.int p5), .val (.int p6), .unset, .unset] [(.int p3), (.int p2)])) _
    refine XS.icmpNo X0.here hx rfl (hb hby d2_2) rfl (flt hc2).1 ?_
    show Steps p.tables e below (s₁.setTop (mkF m 5 #[.val (.ref a1), .val (.int p2), .val (.int p3), .val (.long q4), .second, .val (.int p5), .val (.int p6), .unset, .unset] [])) _
    refine XS.iloadN X0.here hx rfl (hb hby d2_5) rfl ?_
    show Steps p.tables e below (s₁.setTop (mkF m 6 #[.val (.ref a1), .val (.int p2), .val (.int p3), .val (.long q4), .second, .val (.int p5), .val (.int p6), .unset, .unset] [(.int p2)])) _
    refine XS.iloadN X0.here hx rfl (hb hby d2_6) rfl ?_
    show Steps p.tables e below (s₁.setTop (mkF m 7 #[.val (.ref a1), .val (.int p2), .val (.int p3), .val (.long q4), .second, .val (.int p5), .val (.int p6), .unset, .unset] [(.int p3), (.int p2)])) _
    refine XS.iload X0.here hx rfl (hb hby d2_7) rfl ?_
    show Steps p.tables e below (s₁.setTop (mkF m 9 #[.val (.ref a1), .val (.int p2), .val (.int p3), .val (.long q4), .second, .val (.int p5), .val (.int p6), .unset, .unset] [(.int p5), (.int p3), (.int p2)])) _
    refine XS.iadd X0.here hx rfl (hb hby d2_9) rfl ?_
    show Steps p.tables e below (s₁.setTop (mkF m 10 #[.val (.ref a1), .val (.int p2), .val (.int p3), .val (.long q4), .second, .val (.int p5), .val (.int p6), .unset, .unset] [(.int (p3 + p5)), (.int p2)])) _
    refine XS.icmpNo X0.here hx rfl (hb hby d2_10) rfl (flt hc10).1 ?_
    show Steps p.tables e below (s₁.setTop (mkF m 13 #[.val (.ref a1), .val (.int p2), .val (.int p3), .val (.long q4), .second, .val (.int p5), .val (.int p6), .unset, .unset] [])) _
    refine XS.iload X0.here hx rfl (hb hby d2_13) rfl ?_
    show Steps p.tables e below (s₁.setTop (mkF m 15 #[.val (.ref a1), .val (.int p2), .val (.int p3), .val (.long q4), .second, .val (.int p5), .val (.int p6), .unset, .unset] [(.int p6)])) _
    refine XS.iloadN X0.here hx rfl (hb hby d2_15) rfl ?_
    show Steps p.tables e below (s₁.setTop (mkF m 16 #[.val (.ref a1), .val (.int p2), .val (.int p3), .val (.long q4), .second, .val (.int p5), .val (.int p6), .unset, .unset] [(.int p2), (.int p6)])) _
    refine XS.iadd X0.here hx rfl (hb hby d2_16) rfl ?_
    show Steps p.tables e below (s₁.setTop (mkF m 17 #[.val (.ref a1), .val (.int p2), .val (.int p3), .val (.long q4), .second, .val (.int p5), .val (.int p6), .unset, .unset] [(.int (p6 + p2))])) _
    refine XS.i2b X0.here hx rfl (hb hby d2_17) rfl ?_
    show Steps p.tables e below (s₁.setTop (mkF m 18 #[.val (.ref a1), .val (.int p2), .val (.int p3), .val (.long q4), .second, .val (.int p5), .val (.int p6), .unset, .unset] [(.int ((p6 + p2).toInt8.toInt32))])) _
    refine XS.istore X0.here hx rfl (hb hby d2_18) rfl (l' := #[.val (.ref a1), .val (.int p2), .val (.int p3), .val (.long q4), .second, .val (.int p5), .val (.int p6), .val (.int ((p6 + p2).toInt8.toInt32)), .unset]) rfl ?_
    show Steps p.tables e below (s₁.setTop (mkF m 20 #[.val (.ref a1), .val (.int p2), .val (.int p3), .val (.long q4), .second, .val (.int p5), .val (.int p6), .val (.int ((p6 + p2).toInt8.toInt32)), .unset] [])) _
    refine XS.goto X0.here hx rfl (pc0 := 20) (pc' := 48) rfl (hb hby d2_20) (by decide) (by decide) ?_
    show Steps p.tables e below (s₁.setTop (mkF m 48 #[.val (.ref a1), .val (.int p2), .val (.int p3), .val (.long q4), .second, .val (.int p5), .val (.int p6), .val (.int ((p6 + p2).toInt8.toInt32)), .unset] [])) _
    refine XS.aloadN X0.here hx rfl (hb hby d2_48) rfl rfl ?_
    show Steps p.tables e below (s₁.setTop (mkF m 49 #[.val (.ref a1), .val (.int p2), .val (.int p3), .val (.long q4), .second, .val (.int p5), .val (.int p6), .val (.int ((p6 + p2).toInt8.toInt32)), .unset] [(.ref a1)])) _
    refine XS.iloadN X0.here hx rfl (hb hby d2_49) rfl ?_
    show Steps p.tables e below (s₁.setTop (mkF m 50 #[.val (.ref a1), .val (.int p2), .val (.int p3), .val (.long q4), .second, .val (.int p5), .val (.int p6), .val (.int ((p6 + p2).toInt8.toInt32)), .unset] [(.int p2), (.ref a1)])) _
    refine X0.baloadBytes hx (j := p2) (v := (.int w7)) (by rw [e0]; exact Ar_a1.1) (State.isArrayOf_alike hZ.alike Ar_a1.2.1) Ar_a1.2.2 hin50 hat50 (g := (mkF m 50 #[.val (.ref a1), .val (.int p2), .val (.int p3), .val (.long q4), .second, .val (.int p5), .val (.int p6), .val (.int ((p6 + p2).toInt8.toInt32)), .unset] [(.int p2), (.ref a1)])) rfl rfl (hb hby d2_50) _ ?_
    show Steps p.tables e below (s₁.setTop (mkF m 51 #[.val (.ref a1), .val (.int p2), .val (.int p3), .val (.long q4), .second, .val (.int p5), .val (.int p6), .val (.int ((p6 + p2).toInt8.toInt32)), .unset] [(.int w7)])) _
    refine XS.iload X0.here hx rfl (hb hby d2_51) rfl ?_
    show Steps p.tables e below (s₁.setTop (mkF m 53 #[.val (.ref a1), .val (.int p2), .val (.int p3), .val (.long q4), .second, .val (.int p5), .val (.int p6), .val (.int ((p6 + p2).toInt8.toInt32)), .unset] [(.int ((p6 + p2).toInt8.toInt32)), (.int w7)])) _
    refine XS.icmpNo X0.here hx rfl (hb hby d2_53) rfl (teq hc53).2 ?_
    show Steps p.tables e below (s₁.setTop (mkF m 56 #[.val (.ref a1), .val (.int p2), .val (.int p3), .val (.long q4), .second, .val (.int p5), .val (.int p6), .val (.int ((p6 + p2).toInt8.toInt32)), .unset] [])) _
    refine XS.iconst X0.here hx rfl (hb hby d2_56) ?_
    show Steps p.tables e below (s₁.setTop (mkF m 57 #[.val (.ref a1), .val (.int p2), .val (.int p3), .val (.long q4), .second, .val (.int p5), .val (.int p6), .val (.int ((p6 + p2).toInt8.toInt32)), .unset] [(.int (1 : Int32))])) _
    refine XS.goto X0.here hx rfl (pc0 := 57) (pc' := 61) rfl (hb hby d2_57) (by decide) (by decide) ?_
    show Steps p.tables e below (s₁.setTop (mkF m 61 #[.val (.ref a1), .val (.int p2), .val (.int p3), .val (.long q4), .second, .val (.int p5), .val (.int p6), .val (.int ((p6 + p2).toInt8.toInt32)), .unset] [(.int (1 : Int32))])) _
    exact retN X0 hx (t := .boolean) Bd.returns (by simp) (hb hby d2_61) hr
  · show Q2 Z a1 p2 p3 q4 p5 p6 w7 cl_a1 h0 n0 _ s₁.heap _
    rw [e0]
    exact ⟨rfl, N0, rfl⟩

set_option maxRecDepth 65536 in
set_option maxHeartbeats 40000000 in
theorem rm2c (l : Launch) (Z : State) (a0 : Array Value) (hw : ∀ d ∈ tables_1, d.before a0 Z = true) (ws : List Jvm.Cond) (a1 : Addr) (p2 : Int32) (p3 : Int32) (q4 : Int64) (p5 : Int32) (p6 : Int32) (w7 : Int32) (cl_a1 : Cell) (h0 : Heap) (n0 : Nat) (Z0 : n0 ≤ h0.size) (Ar_a1 : Arr Z h0 a1 cl_a1 .byte) (hin50 : ¬ (p2 < 0 ∨ cl_a1.slots.size ≤ (p2).toNatClampNeg)) (hat50 : cl_a1.slots[(p2).toNatClampNeg]? = some (.int w7)) (hc2 : ¬ (p2 < p3)) (hc10 : p2 < (p3 + p5)) (hc53 : w7 = ((((q4 >>> (((8 : Int32) * (((p3 + p5) - (1 : Int32)) - p2)) &&& 0x3f).toInt64) &&& (255 : Int64)).toInt32).toInt8.toInt32)) :
    MetFree l (⟨"com/example/brindlemere/brindlemere/pages/BigEndianPutPinLaw", "ok", "([BIIJII)Z"⟩ : MethodName) (head1 (Jvm.Cond.code (⟨"com/example/brindlemere/brindlemere/pages/BigEndianPutPinLaw", "ok", "([BIIJII)Z"⟩ : MethodName) method_2_code 9 (some .boolean) :: ws) ({ frames := 0, cells := 0, slots := 0, locals := 0 } : Room)) (fun a U => a = #[(.ref a1), (.int p2), (.int p3), (.long q4), (.int p5), (.int p6)] ∧ Z.Warmed39 U.vm ∧ U.heap = h0) (fun _ _ _ _ _ => True) (fun _ U o U' => ∃ v L, o = .returned v ∧ Q2 Z a1 p2 p3 q4 p5 p6 w7 cl_a1 h0 n0 v U'.heap L ∧ FrameEnd U o U' L ({ frames := 0, cells := 0, slots := 0, locals := 0 } : Room).cells ({ frames := 0, cells := 0, slots := 0, locals := 0 } : Room).slots) := by
  refine MetFree.of_bodySF (plainFor_of_name pn_2) hisR ?_
  intro p e s m args below meth c s₁ Bd hml0 hP hK
  obtain ⟨rfl, hZ, hh⟩ := hP
  have hx := Bd.exec
  have hby := Bd.bytes
  have hml : c.maxLocals = 9 := hml0
  have hown : s.vm.findClass "com/example/brindlemere/brindlemere/pages/BigEndianPutPinLaw" = some m.cls := findClass_of_methodNamed Bd.named
  have hnm := (name_of_methodNamed Bd.named Bd.method).1
  have X0 : Stand p l e ({ frames := 0, cells := 0, slots := 0, locals := 0 } : Room) s m #[(.ref a1), (.int p2), (.int p3), (.long q4), (.int p5), (.int p6)] below meth c s₁ [] 0 0 := Stand.of_body Bd
  have e0 : s₁.heap = h0 := by rw [← hh, Bd.state]; rfl
  have N0 := Fr.nil n0
  have pre0 : ∀ t, Steps p.tables e below (s₁.setTop (mkF m 0 #[.val (.ref a1), .val (.int p2), .val (.int p3), .val (.long q4), .second, .val (.int p5), .val (.int p6), .unset, .unset] [])) t → Steps p.tables e below (s₁.setTop (entryFrame m #[(.ref a1), (.int p2), (.int p3), (.long q4), (.int p5), (.int p6)] 9)) t := fun t k => castTop (ef_2 m a1 p2 p3 q4 p5 p6) k

  obtain ⟨fs, hr, hrun, hended, hW, hsame⟩ := X0.leave (v := some (.int (1 : Int32))) (fun h => by rw [Bd.returns] at h; cases h)
  refine ⟨_, _, pre0 _ ?_, hrun, hended, _, _, rfl, ?_, ⟨_, rfl⟩, hW, hsame.mono (by decide) (by decide)⟩
  · show Steps p.tables e below (s₁.setTop (mkF m 0 #[.val (.ref a1), .val (.int p2), .val (.int p3), .val (.long q4), .second, .val (.int p5), .val (.int p6), .unset, .unset] [])) _
    refine XS.iloadN X0.here hx rfl (hb hby d2_0) rfl ?_
    show Steps p.tables e below (s₁.setTop (mkF m 1 #[.val (.ref a1), .val (.int p2), .val (.int p3), .val (.long q4), .second, .val (.int p5), .val (.int p6), .unset, .unset] [(.int p2)])) _
    refine XS.iloadN X0.here hx rfl (hb hby d2_1) rfl ?_
    show Steps p.tables e below (s₁.setTop (mkF m 2 #[.val (.ref a1), .val (.int p2), .val (.int p3), .val (.long q4), .second, .val (.int p5), .val (.int p6), .unset, .unset] [(.int p3), (.int p2)])) _
    refine XS.icmpNo X0.here hx rfl (hb hby d2_2) rfl (flt hc2).1 ?_
    show Steps p.tables e below (s₁.setTop (mkF m 5 #[.val (.ref a1), .val (.int p2), .val (.int p3), .val (.long q4), .second, .val (.int p5), .val (.int p6), .unset, .unset] [])) _
    refine XS.iloadN X0.here hx rfl (hb hby d2_5) rfl ?_
    show Steps p.tables e below (s₁.setTop (mkF m 6 #[.val (.ref a1), .val (.int p2), .val (.int p3), .val (.long q4), .second, .val (.int p5), .val (.int p6), .unset, .unset] [(.int p2)])) _
    refine XS.iloadN X0.here hx rfl (hb hby d2_6) rfl ?_
    show Steps p.tables e below (s₁.setTop (mkF m 7 #[.val (.ref a1), .val (.int p2), .val (.int p3), .val (.long q4), .second, .val (.int p5), .val (.int p6), .unset, .unset] [(.int p3), (.int p2)])) _
    refine XS.iload X0.here hx rfl (hb hby d2_7) rfl ?_
    show Steps p.tables e below (s₁.setTop (mkF m 9 #[.val (.ref a1), .val (.int p2), .val (.int p3), .val (.long q4), .second, .val (.int p5), .val (.int p6), .unset, .unset] [(.int p5), (.int p3), (.int p2)])) _
    refine XS.iadd X0.here hx rfl (hb hby d2_9) rfl ?_
    show Steps p.tables e below (s₁.setTop (mkF m 10 #[.val (.ref a1), .val (.int p2), .val (.int p3), .val (.long q4), .second, .val (.int p5), .val (.int p6), .unset, .unset] [(.int (p3 + p5)), (.int p2)])) _
    refine XS.icmpYes X0.here hx rfl (pc0 := 10) (pc' := 23) rfl (hb hby d2_10) rfl (tlt hc10).1 (by decide) (by decide) ?_
    show Steps p.tables e below (s₁.setTop (mkF m 23 #[.val (.ref a1), .val (.int p2), .val (.int p3), .val (.long q4), .second, .val (.int p5), .val (.int p6), .unset, .unset] [])) _
    refine XS.iloadN X0.here hx rfl (hb hby d2_23) rfl ?_
    show Steps p.tables e below (s₁.setTop (mkF m 24 #[.val (.ref a1), .val (.int p2), .val (.int p3), .val (.long q4), .second, .val (.int p5), .val (.int p6), .unset, .unset] [(.int p3)])) _
    refine XS.iload X0.here hx rfl (hb hby d2_24) rfl ?_
    show Steps p.tables e below (s₁.setTop (mkF m 26 #[.val (.ref a1), .val (.int p2), .val (.int p3), .val (.long q4), .second, .val (.int p5), .val (.int p6), .unset, .unset] [(.int p5), (.int p3)])) _
    refine XS.iadd X0.here hx rfl (hb hby d2_26) rfl ?_
    show Steps p.tables e below (s₁.setTop (mkF m 27 #[.val (.ref a1), .val (.int p2), .val (.int p3), .val (.long q4), .second, .val (.int p5), .val (.int p6), .unset, .unset] [(.int (p3 + p5))])) _
    refine XS.iconst X0.here hx rfl (hb hby d2_27) ?_
    show Steps p.tables e below (s₁.setTop (mkF m 28 #[.val (.ref a1), .val (.int p2), .val (.int p3), .val (.long q4), .second, .val (.int p5), .val (.int p6), .unset, .unset] [(.int (1 : Int32)), (.int (p3 + p5))])) _
    refine XS.isub X0.here hx rfl (hb hby d2_28) rfl ?_
    show Steps p.tables e below (s₁.setTop (mkF m 29 #[.val (.ref a1), .val (.int p2), .val (.int p3), .val (.long q4), .second, .val (.int p5), .val (.int p6), .unset, .unset] [(.int ((p3 + p5) - (1 : Int32)))])) _
    refine XS.iloadN X0.here hx rfl (hb hby d2_29) rfl ?_
    show Steps p.tables e below (s₁.setTop (mkF m 30 #[.val (.ref a1), .val (.int p2), .val (.int p3), .val (.long q4), .second, .val (.int p5), .val (.int p6), .unset, .unset] [(.int p2), (.int ((p3 + p5) - (1 : Int32)))])) _
    refine XS.isub X0.here hx rfl (hb hby d2_30) rfl ?_
    show Steps p.tables e below (s₁.setTop (mkF m 31 #[.val (.ref a1), .val (.int p2), .val (.int p3), .val (.long q4), .second, .val (.int p5), .val (.int p6), .unset, .unset] [(.int (((p3 + p5) - (1 : Int32)) - p2))])) _
    refine XS.istore X0.here hx rfl (hb hby d2_31) rfl (l' := #[.val (.ref a1), .val (.int p2), .val (.int p3), .val (.long q4), .second, .val (.int p5), .val (.int p6), .unset, .val (.int (((p3 + p5) - (1 : Int32)) - p2))]) rfl ?_
    show Steps p.tables e below (s₁.setTop (mkF m 33 #[.val (.ref a1), .val (.int p2), .val (.int p3), .val (.long q4), .second, .val (.int p5), .val (.int p6), .unset, .val (.int (((p3 + p5) - (1 : Int32)) - p2))] [])) _
    refine XS.lloadN X0.here hx rfl (hb hby d2_33) rfl ?_
    show Steps p.tables e below (s₁.setTop (mkF m 34 #[.val (.ref a1), .val (.int p2), .val (.int p3), .val (.long q4), .second, .val (.int p5), .val (.int p6), .unset, .val (.int (((p3 + p5) - (1 : Int32)) - p2))] [(.long q4)])) _
    refine XS.bipush X0.here hx rfl (hb hby d2_34) ?_
    show Steps p.tables e below (s₁.setTop (mkF m 36 #[.val (.ref a1), .val (.int p2), .val (.int p3), .val (.long q4), .second, .val (.int p5), .val (.int p6), .unset, .val (.int (((p3 + p5) - (1 : Int32)) - p2))] [(.int (8 : Int32)), (.long q4)])) _
    refine XS.iload X0.here hx rfl (hb hby d2_36) rfl ?_
    show Steps p.tables e below (s₁.setTop (mkF m 38 #[.val (.ref a1), .val (.int p2), .val (.int p3), .val (.long q4), .second, .val (.int p5), .val (.int p6), .unset, .val (.int (((p3 + p5) - (1 : Int32)) - p2))] [(.int (((p3 + p5) - (1 : Int32)) - p2)), (.int (8 : Int32)), (.long q4)])) _
    refine XS.imul X0.here hx rfl (hb hby d2_38) rfl ?_
    show Steps p.tables e below (s₁.setTop (mkF m 39 #[.val (.ref a1), .val (.int p2), .val (.int p3), .val (.long q4), .second, .val (.int p5), .val (.int p6), .unset, .val (.int (((p3 + p5) - (1 : Int32)) - p2))] [(.int ((8 : Int32) * (((p3 + p5) - (1 : Int32)) - p2))), (.long q4)])) _
    refine XS.lshr X0.here hx rfl (hb hby d2_39) rfl ?_
    show Steps p.tables e below (s₁.setTop (mkF m 40 #[.val (.ref a1), .val (.int p2), .val (.int p3), .val (.long q4), .second, .val (.int p5), .val (.int p6), .unset, .val (.int (((p3 + p5) - (1 : Int32)) - p2))] [(.long (q4 >>> (((8 : Int32) * (((p3 + p5) - (1 : Int32)) - p2)) &&& 0x3f).toInt64))])) _
    refine X0.ldc2Long hx hown (mvT hZ (hw _ (List.mem_of_getElem? (i := 10) rfl))) (g := (mkF m 40 #[.val (.ref a1), .val (.int p2), .val (.int p3), .val (.long q4), .second, .val (.int p5), .val (.int p6), .unset, .val (.int (((p3 + p5) - (1 : Int32)) - p2))] [(.long (q4 >>> (((8 : Int32) * (((p3 + p5) - (1 : Int32)) - p2)) &&& 0x3f).toInt64))])) rfl (hb hby d2_40) _ ?_
    show Steps p.tables e below (s₁.setTop (mkF m 43 #[.val (.ref a1), .val (.int p2), .val (.int p3), .val (.long q4), .second, .val (.int p5), .val (.int p6), .unset, .val (.int (((p3 + p5) - (1 : Int32)) - p2))] [(.long (255 : Int64)), (.long (q4 >>> (((8 : Int32) * (((p3 + p5) - (1 : Int32)) - p2)) &&& 0x3f).toInt64))])) _
    refine XS.land X0.here hx rfl (hb hby d2_43) rfl ?_
    show Steps p.tables e below (s₁.setTop (mkF m 44 #[.val (.ref a1), .val (.int p2), .val (.int p3), .val (.long q4), .second, .val (.int p5), .val (.int p6), .unset, .val (.int (((p3 + p5) - (1 : Int32)) - p2))] [(.long ((q4 >>> (((8 : Int32) * (((p3 + p5) - (1 : Int32)) - p2)) &&& 0x3f).toInt64) &&& (255 : Int64)))])) _
    refine XS.l2i X0.here hx rfl (hb hby d2_44) rfl ?_
    show Steps p.tables e below (s₁.setTop (mkF m 45 #[.val (.ref a1), .val (.int p2), .val (.int p3), .val (.long q4), .second, .val (.int p5), .val (.int p6), .unset, .val (.int (((p3 + p5) - (1 : Int32)) - p2))] [(.int (((q4 >>> (((8 : Int32) * (((p3 + p5) - (1 : Int32)) - p2)) &&& 0x3f).toInt64) &&& (255 : Int64)).toInt32))])) _
    refine XS.i2b X0.here hx rfl (hb hby d2_45) rfl ?_
    show Steps p.tables e below (s₁.setTop (mkF m 46 #[.val (.ref a1), .val (.int p2), .val (.int p3), .val (.long q4), .second, .val (.int p5), .val (.int p6), .unset, .val (.int (((p3 + p5) - (1 : Int32)) - p2))] [(.int ((((q4 >>> (((8 : Int32) * (((p3 + p5) - (1 : Int32)) - p2)) &&& 0x3f).toInt64) &&& (255 : Int64)).toInt32).toInt8.toInt32))])) _
    refine XS.istore X0.here hx rfl (hb hby d2_46) rfl (l' := #[.val (.ref a1), .val (.int p2), .val (.int p3), .val (.long q4), .second, .val (.int p5), .val (.int p6), .val (.int ((((q4 >>> (((8 : Int32) * (((p3 + p5) - (1 : Int32)) - p2)) &&& 0x3f).toInt64) &&& (255 : Int64)).toInt32).toInt8.toInt32)), .val (.int (((p3 + p5) - (1 : Int32)) - p2))]) rfl ?_
    show Steps p.tables e below (s₁.setTop (mkF m 48 #[.val (.ref a1), .val (.int p2), .val (.int p3), .val (.long q4), .second, .val (.int p5), .val (.int p6), .val (.int ((((q4 >>> (((8 : Int32) * (((p3 + p5) - (1 : Int32)) - p2)) &&& 0x3f).toInt64) &&& (255 : Int64)).toInt32).toInt8.toInt32)), .val (.int (((p3 + p5) - (1 : Int32)) - p2))] [])) _
    refine XS.aloadN X0.here hx rfl (hb hby d2_48) rfl rfl ?_
    show Steps p.tables e below (s₁.setTop (mkF m 49 #[.val (.ref a1), .val (.int p2), .val (.int p3), .val (.long q4), .second, .val (.int p5), .val (.int p6), .val (.int ((((q4 >>> (((8 : Int32) * (((p3 + p5) - (1 : Int32)) - p2)) &&& 0x3f).toInt64) &&& (255 : Int64)).toInt32).toInt8.toInt32)), .val (.int (((p3 + p5) - (1 : Int32)) - p2))] [(.ref a1)])) _
    refine XS.iloadN X0.here hx rfl (hb hby d2_49) rfl ?_
    show Steps p.tables e below (s₁.setTop (mkF m 50 #[.val (.ref a1), .val (.int p2), .val (.int p3), .val (.long q4), .second, .val (.int p5), .val (.int p6), .val (.int ((((q4 >>> (((8 : Int32) * (((p3 + p5) - (1 : Int32)) - p2)) &&& 0x3f).toInt64) &&& (255 : Int64)).toInt32).toInt8.toInt32)), .val (.int (((p3 + p5) - (1 : Int32)) - p2))] [(.int p2), (.ref a1)])) _
    refine X0.baloadBytes hx (j := p2) (v := (.int w7)) (by rw [e0]; exact Ar_a1.1) (State.isArrayOf_alike hZ.alike Ar_a1.2.1) Ar_a1.2.2 hin50 hat50 (g := (mkF m 50 #[.val (.ref a1), .val (.int p2), .val (.int p3), .val (.long q4), .second, .val (.int p5), .val (.int p6), .val (.int ((((q4 >>> (((8 : Int32) * (((p3 + p5) - (1 : Int32)) - p2)) &&& 0x3f).toInt64) &&& (255 : Int64)).toInt32).toInt8.toInt32)), .val (.int (((p3 + p5) - (1 : Int32)) - p2))] [(.int p2), (.ref a1)])) rfl rfl (hb hby d2_50) _ ?_
    show Steps p.tables e below (s₁.setTop (mkF m 51 #[.val (.ref a1), .val (.int p2), .val (.int p3), .val (.long q4), .second, .val (.int p5), .val (.int p6), .val (.int ((((q4 >>> (((8 : Int32) * (((p3 + p5) - (1 : Int32)) - p2)) &&& 0x3f).toInt64) &&& (255 : Int64)).toInt32).toInt8.toInt32)), .val (.int (((p3 + p5) - (1 : Int32)) - p2))] [(.int w7)])) _
    refine XS.iload X0.here hx rfl (hb hby d2_51) rfl ?_
    show Steps p.tables e below (s₁.setTop (mkF m 53 #[.val (.ref a1), .val (.int p2), .val (.int p3), .val (.long q4), .second, .val (.int p5), .val (.int p6), .val (.int ((((q4 >>> (((8 : Int32) * (((p3 + p5) - (1 : Int32)) - p2)) &&& 0x3f).toInt64) &&& (255 : Int64)).toInt32).toInt8.toInt32)), .val (.int (((p3 + p5) - (1 : Int32)) - p2))] [(.int ((((q4 >>> (((8 : Int32) * (((p3 + p5) - (1 : Int32)) - p2)) &&& 0x3f).toInt64) &&& (255 : Int64)).toInt32).toInt8.toInt32)), (.int w7)])) _
    refine XS.icmpNo X0.here hx rfl (hb hby d2_53) rfl (teq hc53).2 ?_
    show Steps p.tables e below (s₁.setTop (mkF m 56 #[.val (.ref a1), .val (.int p2), .val (.int p3), .val (.long q4), .second, .val (.int p5), .val (.int p6), .val (.int ((((q4 >>> (((8 : Int32) * (((p3 + p5) - (1 : Int32)) - p2)) &&& 0x3f).toInt64) &&& (255 : Int64)).toInt32).toInt8.toInt32)), .val (.int (((p3 + p5) - (1 : Int32)) - p2))] [])) _
    refine XS.iconst X0.here hx rfl (hb hby d2_56) ?_
    show Steps p.tables e below (s₁.setTop (mkF m 57 #[.val (.ref a1), .val (.int p2), .val (.int p3), .val (.long q4), .second, .val (.int p5), .val (.int p6), .val (.int ((((q4 >>> (((8 : Int32) * (((p3 + p5) - (1 : Int32)) - p2)) &&& 0x3f).toInt64) &&& (255 : Int64)).toInt32).toInt8.toInt32)), .val (.int (((p3 + p5) - (1 : Int32)) - p2))] [(.int (1 : Int32))])) _
    refine XS.goto X0.here hx rfl (pc0 := 57) (pc' := 61) rfl (hb hby d2_57) (by decide) (by decide) ?_
    show Steps p.tables e below (s₁.setTop (mkF m 61 #[.val (.ref a1), .val (.int p2), .val (.int p3), .val (.long q4), .second, .val (.int p5), .val (.int p6), .val (.int ((((q4 >>> (((8 : Int32) * (((p3 + p5) - (1 : Int32)) - p2)) &&& 0x3f).toInt64) &&& (255 : Int64)).toInt32).toInt8.toInt32)), .val (.int (((p3 + p5) - (1 : Int32)) - p2))] [(.int (1 : Int32))])) _
    exact retN X0 hx (t := .boolean) Bd.returns (by simp) (hb hby d2_61) hr
  · show Q2 Z a1 p2 p3 q4 p5 p6 w7 cl_a1 h0 n0 _ s₁.heap _
    rw [e0]
    exact ⟨rfl, N0, rfl⟩

theorem rm2 (l : Launch) (Z : State) (a0 : Array Value) (hw : ∀ d ∈ tables_1, d.before a0 Z = true) (ws : List Jvm.Cond) (a1 : Addr) (p2 : Int32) (p3 : Int32) (q4 : Int64) (p5 : Int32) (p6 : Int32) (w7 : Int32) (cl_a1 : Cell) (h0 : Heap) (n0 : Nat) (Z0 : n0 ≤ h0.size) (Ar_a1 : Arr Z h0 a1 cl_a1 .byte) (hin50 : ¬ (p2 < 0 ∨ cl_a1.slots.size ≤ (p2).toNatClampNeg)) (hat50 : cl_a1.slots[(p2).toNatClampNeg]? = some (.int w7)) (hc : w7 = own_e p6 p3 p5 q4 p2) :
    MetFree l (⟨"com/example/brindlemere/brindlemere/pages/BigEndianPutPinLaw", "ok", "([BIIJII)Z"⟩ : MethodName) (head1 (Jvm.Cond.code (⟨"com/example/brindlemere/brindlemere/pages/BigEndianPutPinLaw", "ok", "([BIIJII)Z"⟩ : MethodName) method_2_code 9 (some .boolean) :: ws) ({ frames := 0, cells := 0, slots := 0, locals := 0 } : Room)) (fun a U => a = #[(.ref a1), (.int p2), (.int p3), (.long q4), (.int p5), (.int p6)] ∧ Z.Warmed39 U.vm ∧ U.heap = h0) (fun _ _ _ _ _ => True) (fun _ U o U' => ∃ v L, o = .returned v ∧ Q2 Z a1 p2 p3 q4 p5 p6 w7 cl_a1 h0 n0 v U'.heap L ∧ FrameEnd U o U' L ({ frames := 0, cells := 0, slots := 0, locals := 0 } : Room).cells ({ frames := 0, cells := 0, slots := 0, locals := 0 } : Room).slots) := by
  by_cases h1 : p2 < p3
  · exact rm2a l Z a0 hw ws a1 p2 p3 q4 p5 p6 w7 cl_a1 h0 n0 Z0 Ar_a1 hin50 hat50 h1 (by rw [hc, own_e, if_pos h1])
  · by_cases h2 : p2 < p3 + p5
    · exact rm2c l Z a0 hw ws a1 p2 p3 q4 p5 p6 w7 cl_a1 h0 n0 Z0 Ar_a1 hin50 hat50 h1 h2 (by rw [hc, own_e, if_neg h1, if_pos h2])
    · exact rm2b l Z a0 hw ws a1 p2 p3 q4 p5 p6 w7 cl_a1 h0 n0 Z0 Ar_a1 hin50 hat50 h1 h2 (by rw [hc, own_e, if_neg h1, if_neg h2])
theorem pn_0 : plainName "com/example/brindlemere/brindlemere/pages/BigEndianPutPinLaw" = true := by first | (simp [plainName, overriddenIn]; done) | decide +kernel
theorem ef_0 (m : MethodId) (x0 : Int32) (x1 : Int64) (x2 : Int32) (x3 : Int32) : entryFrame m #[(.int x0), (.long x1), (.int x2), (.int x3)] maxLocals = mkF m 0 #[.val (.int x0), .val (.long x1), .second, .val (.int x2), .val (.int x3), .unset, .unset, .unset] [] := by first | (simp [entryFrame, mkF, argsToLocals, Value.category, maxLocals]; done) | rfl
set_option maxRecDepth 65536 in
set_option maxHeartbeats 40000000 in
theorem tn0_0_17 {p : Program} {l : Launch} {e : Env} {s : State} {m : MethodId} {args : Array Value} {below : List Frame} {meth : Method} {c : Code} {T0 : State} {locs : List Loc} {Z : State} {a0 : Array Value} {R : Room} {cells slots : Nat} (i0 : Int32) (j1 : Int64) (i3 i4 : Int32)
    (X0 : Stand p l e R s m args below meth c T0 locs cells slots) (hx : p.tables.exec = Jvm.exec) (hZ : Z.Warmed39 s.vm) (hw : ∀ d ∈ tables_1, d.before a0 Z = true) (hby : c.code = code) (hml : c.maxLocals = 8) (hown : s.vm.findClass "com/example/brindlemere/brindlemere/pages/BigEndianPutPinLaw" = some m.cls) :
      ∀ target, Steps p.tables e below (T0.setTop (mkF m 17 #[.val (.int i0), .val (.long j1), .second, .val (.int i3), .val (.int i4), .val (.int ((i3 &&& (2147483647 : Int32)) - (i3 &&& (2147483647 : Int32)) / (9 : Int32) * (9 : Int32))), .val (.int ((i0 &&& (2147483647 : Int32)) - (i0 &&& (2147483647 : Int32)) / (5 : Int32) * (5 : Int32))), .unset] [])) target → Steps p.tables e below (T0.setTop (mkF m 0 #[.val (.int i0), .val (.long j1), .second, .val (.int i3), .val (.int i4), .unset, .unset, .unset] [])) target := by
  intro target kt
  show Steps p.tables e below (T0.setTop (mkF m 0 #[.val (.int i0), .val (.long j1), .second, .val (.int i3), .val (.int i4), .unset, .unset, .unset] [])) _
  refine XS.iloadN X0.here hx rfl (hb hby at_0) rfl ?_
  show Steps p.tables e below (T0.setTop (mkF m 1 #[.val (.int i0), .val (.long j1), .second, .val (.int i3), .val (.int i4), .unset, .unset, .unset] [(.int i3)])) _
  refine X0.ldcInt hx hown (mvT hZ (hw _ (List.mem_of_getElem? (i := 0) rfl))) (g := (mkF m 1 #[.val (.int i0), .val (.long j1), .second, .val (.int i3), .val (.int i4), .unset, .unset, .unset] [(.int i3)])) rfl (hb hby at_1) _ ?_
  show Steps p.tables e below (T0.setTop (mkF m 3 #[.val (.int i0), .val (.long j1), .second, .val (.int i3), .val (.int i4), .unset, .unset, .unset] [(.int (2147483647 : Int32)), (.int i3)])) _
  refine XS.iand X0.here hx rfl (hb hby at_3) rfl ?_
  show Steps p.tables e below (T0.setTop (mkF m 4 #[.val (.int i0), .val (.long j1), .second, .val (.int i3), .val (.int i4), .unset, .unset, .unset] [(.int (i3 &&& (2147483647 : Int32)))])) _
  refine XS.bipush X0.here hx rfl (hb hby at_4) ?_
  show Steps p.tables e below (T0.setTop (mkF m 6 #[.val (.int i0), .val (.long j1), .second, .val (.int i3), .val (.int i4), .unset, .unset, .unset] [(.int (9 : Int32)), (.int (i3 &&& (2147483647 : Int32)))])) _
  refine XS.irem X0.here hx rfl (hb hby at_6) rfl (by decide) ?_
  show Steps p.tables e below (T0.setTop (mkF m 7 #[.val (.int i0), .val (.long j1), .second, .val (.int i3), .val (.int i4), .unset, .unset, .unset] [(.int ((i3 &&& (2147483647 : Int32)) - (i3 &&& (2147483647 : Int32)) / (9 : Int32) * (9 : Int32)))])) _
  refine XS.istore X0.here hx rfl (hb hby at_7) rfl (l' := #[.val (.int i0), .val (.long j1), .second, .val (.int i3), .val (.int i4), .val (.int ((i3 &&& (2147483647 : Int32)) - (i3 &&& (2147483647 : Int32)) / (9 : Int32) * (9 : Int32))), .unset, .unset]) rfl ?_
  show Steps p.tables e below (T0.setTop (mkF m 9 #[.val (.int i0), .val (.long j1), .second, .val (.int i3), .val (.int i4), .val (.int ((i3 &&& (2147483647 : Int32)) - (i3 &&& (2147483647 : Int32)) / (9 : Int32) * (9 : Int32))), .unset, .unset] [])) _
  refine XS.iloadN X0.here hx rfl (hb hby at_9) rfl ?_
  show Steps p.tables e below (T0.setTop (mkF m 10 #[.val (.int i0), .val (.long j1), .second, .val (.int i3), .val (.int i4), .val (.int ((i3 &&& (2147483647 : Int32)) - (i3 &&& (2147483647 : Int32)) / (9 : Int32) * (9 : Int32))), .unset, .unset] [(.int i0)])) _
  refine X0.ldcInt hx hown (mvT hZ (hw _ (List.mem_of_getElem? (i := 0) rfl))) (g := (mkF m 10 #[.val (.int i0), .val (.long j1), .second, .val (.int i3), .val (.int i4), .val (.int ((i3 &&& (2147483647 : Int32)) - (i3 &&& (2147483647 : Int32)) / (9 : Int32) * (9 : Int32))), .unset, .unset] [(.int i0)])) rfl (hb hby at_10) _ ?_
  show Steps p.tables e below (T0.setTop (mkF m 12 #[.val (.int i0), .val (.long j1), .second, .val (.int i3), .val (.int i4), .val (.int ((i3 &&& (2147483647 : Int32)) - (i3 &&& (2147483647 : Int32)) / (9 : Int32) * (9 : Int32))), .unset, .unset] [(.int (2147483647 : Int32)), (.int i0)])) _
  refine XS.iand X0.here hx rfl (hb hby at_12) rfl ?_
  show Steps p.tables e below (T0.setTop (mkF m 13 #[.val (.int i0), .val (.long j1), .second, .val (.int i3), .val (.int i4), .val (.int ((i3 &&& (2147483647 : Int32)) - (i3 &&& (2147483647 : Int32)) / (9 : Int32) * (9 : Int32))), .unset, .unset] [(.int (i0 &&& (2147483647 : Int32)))])) _
  refine XS.iconst X0.here hx rfl (hb hby at_13) ?_
  show Steps p.tables e below (T0.setTop (mkF m 14 #[.val (.int i0), .val (.long j1), .second, .val (.int i3), .val (.int i4), .val (.int ((i3 &&& (2147483647 : Int32)) - (i3 &&& (2147483647 : Int32)) / (9 : Int32) * (9 : Int32))), .unset, .unset] [(.int (5 : Int32)), (.int (i0 &&& (2147483647 : Int32)))])) _
  refine XS.irem X0.here hx rfl (hb hby at_14) rfl (by decide) ?_
  show Steps p.tables e below (T0.setTop (mkF m 15 #[.val (.int i0), .val (.long j1), .second, .val (.int i3), .val (.int i4), .val (.int ((i3 &&& (2147483647 : Int32)) - (i3 &&& (2147483647 : Int32)) / (9 : Int32) * (9 : Int32))), .unset, .unset] [(.int ((i0 &&& (2147483647 : Int32)) - (i0 &&& (2147483647 : Int32)) / (5 : Int32) * (5 : Int32)))])) _
  refine XS.istore X0.here hx rfl (hb hby at_15) rfl (l' := #[.val (.int i0), .val (.long j1), .second, .val (.int i3), .val (.int i4), .val (.int ((i3 &&& (2147483647 : Int32)) - (i3 &&& (2147483647 : Int32)) / (9 : Int32) * (9 : Int32))), .val (.int ((i0 &&& (2147483647 : Int32)) - (i0 &&& (2147483647 : Int32)) / (5 : Int32) * (5 : Int32))), .unset]) rfl ?_
  exact kt
theorem os0_129 {s0 : Slot} {s1 : Slot} {s2 : Slot} {s3 : Slot} {z4 : Value} {s5 : Slot} {s6 : Slot} {s7 : Slot} {v : Addr} (h : One s7) : storeLocals #[s0, s1, s2, s3, .val z4, s5, s6, s7] 7 (.ref v) = some #[s0, s1, s2, s3, .val z4, s5, s6, .val (.ref v)] := by
  rcases h with rfl | ⟨w, rfl, hw⟩
  · rfl
  · cases w <;> first | rfl | (simp [Value.category] at hw)
set_option maxRecDepth 65536 in
set_option maxHeartbeats 40000000 in
theorem tn0_17_131 {p : Program} {l : Launch} {e : Env} {s : State} {m : MethodId} {args : Array Value} {below : List Frame} {meth : Method} {c : Code} {T0 : State} {locs : List Loc} {Z : State} {a0 : Array Value} {h0 : Heap} (s0 : Slot) (s1 : Slot) (s2 : Slot) (s3 : Slot) (i4 : Int32) (s5 : Slot) (s6 : Slot) (s7 : Slot) (n0 : Nat)
    (X0 : Stand p l e room_1 s m args below meth c T0 locs 0 0) (hx : p.tables.exec = Jvm.exec) (hZ : Z.Warmed39 s.vm) (hw : ∀ d ∈ tables_1, d.before a0 Z = true) (hby : c.code = code) (hml : c.maxLocals = 8) (hown : s.vm.findClass "com/example/brindlemere/brindlemere/pages/BigEndianPutPinLaw" = some m.cls) (e0 : T0.heap = h0) (N0 : Fr n0 locs) (Z0 : n0 ≤ h0.size) (hs7 : One s7) :
    ∃ (T' : State) (h' : Heap) (locs' : List Loc) (b5 : Addr), Stand p l e room_1 s m args below meth c T' locs' 1 12 ∧ T'.heap = h' ∧ Fr n0 locs' ∧ n0 ≤ b5 ∧ n0 ≤ h'.size ∧ own_ar Z h' b5 (fun j => (i4 + Int32.ofNat j).toInt8.toInt32) ∧
      ∀ target, Steps p.tables e below (T'.setTop (mkF m 131 #[s0, s1, s2, s3, .val (.int i4), s5, s6, .val (.ref b5)] [])) target → Steps p.tables e below (T0.setTop (mkF m 17 #[s0, s1, s2, s3, .val (.int i4), s5, s6, s7] [])) target := by
  obtain ⟨T5, h5, k5, X5, e5, E5, A5, st5⟩ := newP X0 hx hZ (hw _ (List.mem_of_getElem? (i := 1) rfl)) e0 (g := (mkF m 19 #[s0, s1, s2, s3, .val (.int i4), s5, s6, s7] [(.int (12 : Int32))])) rfl (hb hby at_19) rfl (by decide) (cap := 12) (by decide) (by decide) (by decide) (by decide)
  obtain ⟨b5, g5⟩ : ∃ z, z = h0.size := ⟨_, rfl⟩
  rw [← g5] at A5 st5
  have V_b5 : Arv Z h5 b5 k5 .byte (12 : Int32) [(.int (0 : Int32)), (.int (0 : Int32)), (.int (0 : Int32)), (.int (0 : Int32)), (.int (0 : Int32)), (.int (0 : Int32)), (.int (0 : Int32)), (.int (0 : Int32)), (.int (0 : Int32)), (.int (0 : Int32)), (.int (0 : Int32)), (.int (0 : Int32))] (.int (0 : Int32)) := (Arv.new A5 (by decide)).pad (pad_rep [] (.int (0 : Int32)) 12)
  have g_b5 : n0 ≤ b5 := Nat.le_trans Z0 (Nat.le_of_eq g5.symm)
  have sz_b5 : h0.size ≤ b5 := (Nat.le_trans (Keep.refl h0 []).1 (Nat.le_of_eq g5.symm))
  have K5 : Keep h0 h5 [] := (Keep.refl h0 []).ext E5
  obtain ⟨cl_b5_28, Ar_b5, q_b5, S_b5, N_b5, H_b5, G_b5⟩ := V_b5
  have hin28 : ¬ ((0 : Int32) < 0 ∨ cl_b5_28.slots.size ≤ ((0 : Int32)).toNatClampNeg) := inb_of S_b5 ⟨by decide, by decide⟩
  obtain ⟨T6, h6, X6, e6, W6, st6⟩ := stB X5 hx hZ e5 Ar_b5 (j := (0 : Int32)) hin28 (g := (mkF m 28 #[s0, s1, s2, s3, .val (.int i4), s5, s6, s7] [(.int ((i4 + (0 : Int32)).toInt8.toInt32)), (.int (0 : Int32)), (.ref b5), (.ref b5)])) rfl rfl (hb hby at_28)
  have V_b5_6 := Arv.set Ar_b5 q_b5 S_b5 N_b5 H_b5 G_b5 (fits_nar_byte _) W6 0 rfl (Nat.le_of_ble_eq_true rfl)
  have K6 : Keep h0 h6 [] := K5.wr W6 (Or.inr sz_b5)
  have N6 := Fr.snoc X6 N0 g_b5
  obtain ⟨cl_b5_36, Ar_b5, q_b5, S_b5, N_b5, H_b5, G_b5⟩ := V_b5_6
  have hin36 : ¬ ((1 : Int32) < 0 ∨ cl_b5_36.slots.size ≤ ((1 : Int32)).toNatClampNeg) := inb_of S_b5 ⟨by decide, by decide⟩
  obtain ⟨T7, h7, X7, e7, W7, st7⟩ := stB X6 hx hZ e6 Ar_b5 (j := (1 : Int32)) hin36 (g := (mkF m 36 #[s0, s1, s2, s3, .val (.int i4), s5, s6, s7] [(.int ((i4 + (1 : Int32)).toInt8.toInt32)), (.int (1 : Int32)), (.ref b5), (.ref b5)])) rfl rfl (hb hby at_36)
  have V_b5_7 := Arv.set Ar_b5 q_b5 S_b5 N_b5 H_b5 G_b5 (fits_nar_byte _) W7 1 rfl (Nat.le_of_ble_eq_true rfl)
  have K7 : Keep h0 h7 [] := K6.wr W7 (Or.inr sz_b5)
  have N7 := Fr.snoc X7 N6 g_b5
  obtain ⟨cl_b5_44, Ar_b5, q_b5, S_b5, N_b5, H_b5, G_b5⟩ := V_b5_7
  have hin44 : ¬ ((2 : Int32) < 0 ∨ cl_b5_44.slots.size ≤ ((2 : Int32)).toNatClampNeg) := inb_of S_b5 ⟨by decide, by decide⟩
  obtain ⟨T8, h8, X8, e8, W8, st8⟩ := stB X7 hx hZ e7 Ar_b5 (j := (2 : Int32)) hin44 (g := (mkF m 44 #[s0, s1, s2, s3, .val (.int i4), s5, s6, s7] [(.int ((i4 + (2 : Int32)).toInt8.toInt32)), (.int (2 : Int32)), (.ref b5), (.ref b5)])) rfl rfl (hb hby at_44)
  have V_b5_8 := Arv.set Ar_b5 q_b5 S_b5 N_b5 H_b5 G_b5 (fits_nar_byte _) W8 2 rfl (Nat.le_of_ble_eq_true rfl)
  have K8 : Keep h0 h8 [] := K7.wr W8 (Or.inr sz_b5)
  have N8 := Fr.snoc X8 N7 g_b5
  obtain ⟨cl_b5_52, Ar_b5, q_b5, S_b5, N_b5, H_b5, G_b5⟩ := V_b5_8
  have hin52 : ¬ ((3 : Int32) < 0 ∨ cl_b5_52.slots.size ≤ ((3 : Int32)).toNatClampNeg) := inb_of S_b5 ⟨by decide, by decide⟩
  obtain ⟨T9, h9, X9, e9, W9, st9⟩ := stB X8 hx hZ e8 Ar_b5 (j := (3 : Int32)) hin52 (g := (mkF m 52 #[s0, s1, s2, s3, .val (.int i4), s5, s6, s7] [(.int ((i4 + (3 : Int32)).toInt8.toInt32)), (.int (3 : Int32)), (.ref b5), (.ref b5)])) rfl rfl (hb hby at_52)
  have V_b5_9 := Arv.set Ar_b5 q_b5 S_b5 N_b5 H_b5 G_b5 (fits_nar_byte _) W9 3 rfl (Nat.le_of_ble_eq_true rfl)
  have K9 : Keep h0 h9 [] := K8.wr W9 (Or.inr sz_b5)
  have N9 := Fr.snoc X9 N8 g_b5
  obtain ⟨cl_b5_60, Ar_b5, q_b5, S_b5, N_b5, H_b5, G_b5⟩ := V_b5_9
  have hin60 : ¬ ((4 : Int32) < 0 ∨ cl_b5_60.slots.size ≤ ((4 : Int32)).toNatClampNeg) := inb_of S_b5 ⟨by decide, by decide⟩
  obtain ⟨T10, h10, X10, e10, W10, st10⟩ := stB X9 hx hZ e9 Ar_b5 (j := (4 : Int32)) hin60 (g := (mkF m 60 #[s0, s1, s2, s3, .val (.int i4), s5, s6, s7] [(.int ((i4 + (4 : Int32)).toInt8.toInt32)), (.int (4 : Int32)), (.ref b5), (.ref b5)])) rfl rfl (hb hby at_60)
  have V_b5_10 := Arv.set Ar_b5 q_b5 S_b5 N_b5 H_b5 G_b5 (fits_nar_byte _) W10 4 rfl (Nat.le_of_ble_eq_true rfl)
  have K10 : Keep h0 h10 [] := K9.wr W10 (Or.inr sz_b5)
  have N10 := Fr.snoc X10 N9 g_b5
  obtain ⟨cl_b5_68, Ar_b5, q_b5, S_b5, N_b5, H_b5, G_b5⟩ := V_b5_10
  have hin68 : ¬ ((5 : Int32) < 0 ∨ cl_b5_68.slots.size ≤ ((5 : Int32)).toNatClampNeg) := inb_of S_b5 ⟨by decide, by decide⟩
  obtain ⟨T11, h11, X11, e11, W11, st11⟩ := stB X10 hx hZ e10 Ar_b5 (j := (5 : Int32)) hin68 (g := (mkF m 68 #[s0, s1, s2, s3, .val (.int i4), s5, s6, s7] [(.int ((i4 + (5 : Int32)).toInt8.toInt32)), (.int (5 : Int32)), (.ref b5), (.ref b5)])) rfl rfl (hb hby at_68)
  have V_b5_11 := Arv.set Ar_b5 q_b5 S_b5 N_b5 H_b5 G_b5 (fits_nar_byte _) W11 5 rfl (Nat.le_of_ble_eq_true rfl)
  have K11 : Keep h0 h11 [] := K10.wr W11 (Or.inr sz_b5)
  have N11 := Fr.snoc X11 N10 g_b5
  obtain ⟨cl_b5_78, Ar_b5, q_b5, S_b5, N_b5, H_b5, G_b5⟩ := V_b5_11
  have hin78 : ¬ ((6 : Int32) < 0 ∨ cl_b5_78.slots.size ≤ ((6 : Int32)).toNatClampNeg) := inb_of S_b5 ⟨by decide, by decide⟩
  obtain ⟨T12, h12, X12, e12, W12, st12⟩ := stB X11 hx hZ e11 Ar_b5 (j := (6 : Int32)) hin78 (g := (mkF m 78 #[s0, s1, s2, s3, .val (.int i4), s5, s6, s7] [(.int ((i4 + (6 : Int32)).toInt8.toInt32)), (.int (6 : Int32)), (.ref b5), (.ref b5)])) rfl rfl (hb hby at_78)
  have V_b5_12 := Arv.set Ar_b5 q_b5 S_b5 N_b5 H_b5 G_b5 (fits_nar_byte _) W12 6 rfl (Nat.le_of_ble_eq_true rfl)
  have K12 : Keep h0 h12 [] := K11.wr W12 (Or.inr sz_b5)
  have N12 := Fr.snoc X12 N11 g_b5
  obtain ⟨cl_b5_88, Ar_b5, q_b5, S_b5, N_b5, H_b5, G_b5⟩ := V_b5_12
  have hin88 : ¬ ((7 : Int32) < 0 ∨ cl_b5_88.slots.size ≤ ((7 : Int32)).toNatClampNeg) := inb_of S_b5 ⟨by decide, by decide⟩
  obtain ⟨T13, h13, X13, e13, W13, st13⟩ := stB X12 hx hZ e12 Ar_b5 (j := (7 : Int32)) hin88 (g := (mkF m 88 #[s0, s1, s2, s3, .val (.int i4), s5, s6, s7] [(.int ((i4 + (7 : Int32)).toInt8.toInt32)), (.int (7 : Int32)), (.ref b5), (.ref b5)])) rfl rfl (hb hby at_88)
  have V_b5_13 := Arv.set Ar_b5 q_b5 S_b5 N_b5 H_b5 G_b5 (fits_nar_byte _) W13 7 rfl (Nat.le_of_ble_eq_true rfl)
  have K13 : Keep h0 h13 [] := K12.wr W13 (Or.inr sz_b5)
  have N13 := Fr.snoc X13 N12 g_b5
  obtain ⟨cl_b5_98, Ar_b5, q_b5, S_b5, N_b5, H_b5, G_b5⟩ := V_b5_13
  have hin98 : ¬ ((8 : Int32) < 0 ∨ cl_b5_98.slots.size ≤ ((8 : Int32)).toNatClampNeg) := inb_of S_b5 ⟨by decide, by decide⟩
  obtain ⟨T14, h14, X14, e14, W14, st14⟩ := stB X13 hx hZ e13 Ar_b5 (j := (8 : Int32)) hin98 (g := (mkF m 98 #[s0, s1, s2, s3, .val (.int i4), s5, s6, s7] [(.int ((i4 + (8 : Int32)).toInt8.toInt32)), (.int (8 : Int32)), (.ref b5), (.ref b5)])) rfl rfl (hb hby at_98)
  have V_b5_14 := Arv.set Ar_b5 q_b5 S_b5 N_b5 H_b5 G_b5 (fits_nar_byte _) W14 8 rfl (Nat.le_of_ble_eq_true rfl)
  have K14 : Keep h0 h14 [] := K13.wr W14 (Or.inr sz_b5)
  have N14 := Fr.snoc X14 N13 g_b5
  obtain ⟨cl_b5_108, Ar_b5, q_b5, S_b5, N_b5, H_b5, G_b5⟩ := V_b5_14
  have hin108 : ¬ ((9 : Int32) < 0 ∨ cl_b5_108.slots.size ≤ ((9 : Int32)).toNatClampNeg) := inb_of S_b5 ⟨by decide, by decide⟩
  obtain ⟨T15, h15, X15, e15, W15, st15⟩ := stB X14 hx hZ e14 Ar_b5 (j := (9 : Int32)) hin108 (g := (mkF m 108 #[s0, s1, s2, s3, .val (.int i4), s5, s6, s7] [(.int ((i4 + (9 : Int32)).toInt8.toInt32)), (.int (9 : Int32)), (.ref b5), (.ref b5)])) rfl rfl (hb hby at_108)
  have V_b5_15 := Arv.set Ar_b5 q_b5 S_b5 N_b5 H_b5 G_b5 (fits_nar_byte _) W15 9 rfl (Nat.le_of_ble_eq_true rfl)
  have K15 : Keep h0 h15 [] := K14.wr W15 (Or.inr sz_b5)
  have N15 := Fr.snoc X15 N14 g_b5
  obtain ⟨cl_b5_118, Ar_b5, q_b5, S_b5, N_b5, H_b5, G_b5⟩ := V_b5_15
  have hin118 : ¬ ((10 : Int32) < 0 ∨ cl_b5_118.slots.size ≤ ((10 : Int32)).toNatClampNeg) := inb_of S_b5 ⟨by decide, by decide⟩
  obtain ⟨T16, h16, X16, e16, W16, st16⟩ := stB X15 hx hZ e15 Ar_b5 (j := (10 : Int32)) hin118 (g := (mkF m 118 #[s0, s1, s2, s3, .val (.int i4), s5, s6, s7] [(.int ((i4 + (10 : Int32)).toInt8.toInt32)), (.int (10 : Int32)), (.ref b5), (.ref b5)])) rfl rfl (hb hby at_118)
  have V_b5_16 := Arv.set Ar_b5 q_b5 S_b5 N_b5 H_b5 G_b5 (fits_nar_byte _) W16 10 rfl (Nat.le_of_ble_eq_true rfl)
  have K16 : Keep h0 h16 [] := K15.wr W16 (Or.inr sz_b5)
  have N16 := Fr.snoc X16 N15 g_b5
  obtain ⟨cl_b5_128, Ar_b5, q_b5, S_b5, N_b5, H_b5, G_b5⟩ := V_b5_16
  have hin128 : ¬ ((11 : Int32) < 0 ∨ cl_b5_128.slots.size ≤ ((11 : Int32)).toNatClampNeg) := inb_of S_b5 ⟨by decide, by decide⟩
  obtain ⟨T17, h17, X17, e17, W17, st17⟩ := stB X16 hx hZ e16 Ar_b5 (j := (11 : Int32)) hin128 (g := (mkF m 128 #[s0, s1, s2, s3, .val (.int i4), s5, s6, s7] [(.int ((i4 + (11 : Int32)).toInt8.toInt32)), (.int (11 : Int32)), (.ref b5), (.ref b5)])) rfl rfl (hb hby at_128)
  have V_b5_17 := Arv.set Ar_b5 q_b5 S_b5 N_b5 H_b5 G_b5 (fits_nar_byte _) W17 11 rfl (Nat.le_of_ble_eq_true rfl)
  have K17 : Keep h0 h17 [] := K16.wr W17 (Or.inr sz_b5)
  have N17 := Fr.snoc X17 N16 g_b5
  refine ⟨T17, _, _, b5, X17, e17, N17, g_b5, Nat.le_trans Z0 K17.1, own_arv V_b5_17 (own_twelve (congrArg Value.int (own_nar _)) (congrArg Value.int (own_nar _)) (congrArg Value.int (own_nar _)) (congrArg Value.int (own_nar _)) (congrArg Value.int (own_nar _)) (congrArg Value.int (own_nar _)) (congrArg Value.int (own_nar _)) (congrArg Value.int (own_nar _)) (congrArg Value.int (own_nar _)) (congrArg Value.int (own_nar _)) (congrArg Value.int (own_nar _)) (congrArg Value.int (own_nar _))), fun target kt => ?_⟩
  show Steps p.tables e below (T0.setTop (mkF m 17 #[s0, s1, s2, s3, .val (.int i4), s5, s6, s7] [])) _
  refine XS.bipush X0.here hx rfl (hb hby at_17) ?_
  show Steps p.tables e below (T0.setTop (mkF m 19 #[s0, s1, s2, s3, .val (.int i4), s5, s6, s7] [(.int (12 : Int32))])) _
  refine st5 _ ?_
  show Steps p.tables e below (T5.setTop (mkF m 21 #[s0, s1, s2, s3, .val (.int i4), s5, s6, s7] [(.ref b5)])) _
  refine XS.dup X5.here hx rfl (hb hby at_21) rfl rfl ?_
  show Steps p.tables e below (T5.setTop (mkF m 22 #[s0, s1, s2, s3, .val (.int i4), s5, s6, s7] [(.ref b5), (.ref b5)])) _
  refine XS.iconst X5.here hx rfl (hb hby at_22) ?_
  show Steps p.tables e below (T5.setTop (mkF m 23 #[s0, s1, s2, s3, .val (.int i4), s5, s6, s7] [(.int (0 : Int32)), (.ref b5), (.ref b5)])) _
  refine XS.iload X5.here hx rfl (hb hby at_23) rfl ?_
  show Steps p.tables e below (T5.setTop (mkF m 25 #[s0, s1, s2, s3, .val (.int i4), s5, s6, s7] [(.int i4), (.int (0 : Int32)), (.ref b5), (.ref b5)])) _
  refine XS.iconst X5.here hx rfl (hb hby at_25) ?_
  show Steps p.tables e below (T5.setTop (mkF m 26 #[s0, s1, s2, s3, .val (.int i4), s5, s6, s7] [(.int (0 : Int32)), (.int i4), (.int (0 : Int32)), (.ref b5), (.ref b5)])) _
  refine XS.iadd X5.here hx rfl (hb hby at_26) rfl ?_
  show Steps p.tables e below (T5.setTop (mkF m 27 #[s0, s1, s2, s3, .val (.int i4), s5, s6, s7] [(.int (i4 + (0 : Int32))), (.int (0 : Int32)), (.ref b5), (.ref b5)])) _
  refine XS.i2b X5.here hx rfl (hb hby at_27) rfl ?_
  show Steps p.tables e below (T5.setTop (mkF m 28 #[s0, s1, s2, s3, .val (.int i4), s5, s6, s7] [(.int ((i4 + (0 : Int32)).toInt8.toInt32)), (.int (0 : Int32)), (.ref b5), (.ref b5)])) _
  refine st6 _ ?_
  show Steps p.tables e below (T6.setTop (mkF m 29 #[s0, s1, s2, s3, .val (.int i4), s5, s6, s7] [(.ref b5)])) _
  refine XS.dup X6.here hx rfl (hb hby at_29) rfl rfl ?_
  show Steps p.tables e below (T6.setTop (mkF m 30 #[s0, s1, s2, s3, .val (.int i4), s5, s6, s7] [(.ref b5), (.ref b5)])) _
  refine XS.iconst X6.here hx rfl (hb hby at_30) ?_
  show Steps p.tables e below (T6.setTop (mkF m 31 #[s0, s1, s2, s3, .val (.int i4), s5, s6, s7] [(.int (1 : Int32)), (.ref b5), (.ref b5)])) _
  refine XS.iload X6.here hx rfl (hb hby at_31) rfl ?_
  show Steps p.tables e below (T6.setTop (mkF m 33 #[s0, s1, s2, s3, .val (.int i4), s5, s6, s7] [(.int i4), (.int (1 : Int32)), (.ref b5), (.ref b5)])) _
  refine XS.iconst X6.here hx rfl (hb hby at_33) ?_
  show Steps p.tables e below (T6.setTop (mkF m 34 #[s0, s1, s2, s3, .val (.int i4), s5, s6, s7] [(.int (1 : Int32)), (.int i4), (.int (1 : Int32)), (.ref b5), (.ref b5)])) _
  refine XS.iadd X6.here hx rfl (hb hby at_34) rfl ?_
  show Steps p.tables e below (T6.setTop (mkF m 35 #[s0, s1, s2, s3, .val (.int i4), s5, s6, s7] [(.int (i4 + (1 : Int32))), (.int (1 : Int32)), (.ref b5), (.ref b5)])) _
  refine XS.i2b X6.here hx rfl (hb hby at_35) rfl ?_
  show Steps p.tables e below (T6.setTop (mkF m 36 #[s0, s1, s2, s3, .val (.int i4), s5, s6, s7] [(.int ((i4 + (1 : Int32)).toInt8.toInt32)), (.int (1 : Int32)), (.ref b5), (.ref b5)])) _
  refine st7 _ ?_
  show Steps p.tables e below (T7.setTop (mkF m 37 #[s0, s1, s2, s3, .val (.int i4), s5, s6, s7] [(.ref b5)])) _
  refine XS.dup X7.here hx rfl (hb hby at_37) rfl rfl ?_
  show Steps p.tables e below (T7.setTop (mkF m 38 #[s0, s1, s2, s3, .val (.int i4), s5, s6, s7] [(.ref b5), (.ref b5)])) _
  refine XS.iconst X7.here hx rfl (hb hby at_38) ?_
  show Steps p.tables e below (T7.setTop (mkF m 39 #[s0, s1, s2, s3, .val (.int i4), s5, s6, s7] [(.int (2 : Int32)), (.ref b5), (.ref b5)])) _
  refine XS.iload X7.here hx rfl (hb hby at_39) rfl ?_
  show Steps p.tables e below (T7.setTop (mkF m 41 #[s0, s1, s2, s3, .val (.int i4), s5, s6, s7] [(.int i4), (.int (2 : Int32)), (.ref b5), (.ref b5)])) _
  refine XS.iconst X7.here hx rfl (hb hby at_41) ?_
  show Steps p.tables e below (T7.setTop (mkF m 42 #[s0, s1, s2, s3, .val (.int i4), s5, s6, s7] [(.int (2 : Int32)), (.int i4), (.int (2 : Int32)), (.ref b5), (.ref b5)])) _
  refine XS.iadd X7.here hx rfl (hb hby at_42) rfl ?_
  show Steps p.tables e below (T7.setTop (mkF m 43 #[s0, s1, s2, s3, .val (.int i4), s5, s6, s7] [(.int (i4 + (2 : Int32))), (.int (2 : Int32)), (.ref b5), (.ref b5)])) _
  refine XS.i2b X7.here hx rfl (hb hby at_43) rfl ?_
  show Steps p.tables e below (T7.setTop (mkF m 44 #[s0, s1, s2, s3, .val (.int i4), s5, s6, s7] [(.int ((i4 + (2 : Int32)).toInt8.toInt32)), (.int (2 : Int32)), (.ref b5), (.ref b5)])) _
  refine st8 _ ?_
  show Steps p.tables e below (T8.setTop (mkF m 45 #[s0, s1, s2, s3, .val (.int i4), s5, s6, s7] [(.ref b5)])) _
  refine XS.dup X8.here hx rfl (hb hby at_45) rfl rfl ?_
  show Steps p.tables e below (T8.setTop (mkF m 46 #[s0, s1, s2, s3, .val (.int i4), s5, s6, s7] [(.ref b5), (.ref b5)])) _
  refine XS.iconst X8.here hx rfl (hb hby at_46) ?_
  show Steps p.tables e below (T8.setTop (mkF m 47 #[s0, s1, s2, s3, .val (.int i4), s5, s6, s7] [(.int (3 : Int32)), (.ref b5), (.ref b5)])) _
  refine XS.iload X8.here hx rfl (hb hby at_47) rfl ?_
  show Steps p.tables e below (T8.setTop (mkF m 49 #[s0, s1, s2, s3, .val (.int i4), s5, s6, s7] [(.int i4), (.int (3 : Int32)), (.ref b5), (.ref b5)])) _
  refine XS.iconst X8.here hx rfl (hb hby at_49) ?_
  show Steps p.tables e below (T8.setTop (mkF m 50 #[s0, s1, s2, s3, .val (.int i4), s5, s6, s7] [(.int (3 : Int32)), (.int i4), (.int (3 : Int32)), (.ref b5), (.ref b5)])) _
  refine XS.iadd X8.here hx rfl (hb hby at_50) rfl ?_
  show Steps p.tables e below (T8.setTop (mkF m 51 #[s0, s1, s2, s3, .val (.int i4), s5, s6, s7] [(.int (i4 + (3 : Int32))), (.int (3 : Int32)), (.ref b5), (.ref b5)])) _
  refine XS.i2b X8.here hx rfl (hb hby at_51) rfl ?_
  show Steps p.tables e below (T8.setTop (mkF m 52 #[s0, s1, s2, s3, .val (.int i4), s5, s6, s7] [(.int ((i4 + (3 : Int32)).toInt8.toInt32)), (.int (3 : Int32)), (.ref b5), (.ref b5)])) _
  refine st9 _ ?_
  show Steps p.tables e below (T9.setTop (mkF m 53 #[s0, s1, s2, s3, .val (.int i4), s5, s6, s7] [(.ref b5)])) _
  refine XS.dup X9.here hx rfl (hb hby at_53) rfl rfl ?_
  show Steps p.tables e below (T9.setTop (mkF m 54 #[s0, s1, s2, s3, .val (.int i4), s5, s6, s7] [(.ref b5), (.ref b5)])) _
  refine XS.iconst X9.here hx rfl (hb hby at_54) ?_
  show Steps p.tables e below (T9.setTop (mkF m 55 #[s0, s1, s2, s3, .val (.int i4), s5, s6, s7] [(.int (4 : Int32)), (.ref b5), (.ref b5)])) _
  refine XS.iload X9.here hx rfl (hb hby at_55) rfl ?_
  show Steps p.tables e below (T9.setTop (mkF m 57 #[s0, s1, s2, s3, .val (.int i4), s5, s6, s7] [(.int i4), (.int (4 : Int32)), (.ref b5), (.ref b5)])) _
  refine XS.iconst X9.here hx rfl (hb hby at_57) ?_
  show Steps p.tables e below (T9.setTop (mkF m 58 #[s0, s1, s2, s3, .val (.int i4), s5, s6, s7] [(.int (4 : Int32)), (.int i4), (.int (4 : Int32)), (.ref b5), (.ref b5)])) _
  refine XS.iadd X9.here hx rfl (hb hby at_58) rfl ?_
  show Steps p.tables e below (T9.setTop (mkF m 59 #[s0, s1, s2, s3, .val (.int i4), s5, s6, s7] [(.int (i4 + (4 : Int32))), (.int (4 : Int32)), (.ref b5), (.ref b5)])) _
  refine XS.i2b X9.here hx rfl (hb hby at_59) rfl ?_
  show Steps p.tables e below (T9.setTop (mkF m 60 #[s0, s1, s2, s3, .val (.int i4), s5, s6, s7] [(.int ((i4 + (4 : Int32)).toInt8.toInt32)), (.int (4 : Int32)), (.ref b5), (.ref b5)])) _
  refine st10 _ ?_
  show Steps p.tables e below (T10.setTop (mkF m 61 #[s0, s1, s2, s3, .val (.int i4), s5, s6, s7] [(.ref b5)])) _
  refine XS.dup X10.here hx rfl (hb hby at_61) rfl rfl ?_
  show Steps p.tables e below (T10.setTop (mkF m 62 #[s0, s1, s2, s3, .val (.int i4), s5, s6, s7] [(.ref b5), (.ref b5)])) _
  refine XS.iconst X10.here hx rfl (hb hby at_62) ?_
  show Steps p.tables e below (T10.setTop (mkF m 63 #[s0, s1, s2, s3, .val (.int i4), s5, s6, s7] [(.int (5 : Int32)), (.ref b5), (.ref b5)])) _
  refine XS.iload X10.here hx rfl (hb hby at_63) rfl ?_
  show Steps p.tables e below (T10.setTop (mkF m 65 #[s0, s1, s2, s3, .val (.int i4), s5, s6, s7] [(.int i4), (.int (5 : Int32)), (.ref b5), (.ref b5)])) _
  refine XS.iconst X10.here hx rfl (hb hby at_65) ?_
  show Steps p.tables e below (T10.setTop (mkF m 66 #[s0, s1, s2, s3, .val (.int i4), s5, s6, s7] [(.int (5 : Int32)), (.int i4), (.int (5 : Int32)), (.ref b5), (.ref b5)])) _
  refine XS.iadd X10.here hx rfl (hb hby at_66) rfl ?_
  show Steps p.tables e below (T10.setTop (mkF m 67 #[s0, s1, s2, s3, .val (.int i4), s5, s6, s7] [(.int (i4 + (5 : Int32))), (.int (5 : Int32)), (.ref b5), (.ref b5)])) _
  refine XS.i2b X10.here hx rfl (hb hby at_67) rfl ?_
  show Steps p.tables e below (T10.setTop (mkF m 68 #[s0, s1, s2, s3, .val (.int i4), s5, s6, s7] [(.int ((i4 + (5 : Int32)).toInt8.toInt32)), (.int (5 : Int32)), (.ref b5), (.ref b5)])) _
  refine st11 _ ?_
  show Steps p.tables e below (T11.setTop (mkF m 69 #[s0, s1, s2, s3, .val (.int i4), s5, s6, s7] [(.ref b5)])) _
  refine XS.dup X11.here hx rfl (hb hby at_69) rfl rfl ?_
  show Steps p.tables e below (T11.setTop (mkF m 70 #[s0, s1, s2, s3, .val (.int i4), s5, s6, s7] [(.ref b5), (.ref b5)])) _
  refine XS.bipush X11.here hx rfl (hb hby at_70) ?_
  show Steps p.tables e below (T11.setTop (mkF m 72 #[s0, s1, s2, s3, .val (.int i4), s5, s6, s7] [(.int (6 : Int32)), (.ref b5), (.ref b5)])) _
  refine XS.iload X11.here hx rfl (hb hby at_72) rfl ?_
  show Steps p.tables e below (T11.setTop (mkF m 74 #[s0, s1, s2, s3, .val (.int i4), s5, s6, s7] [(.int i4), (.int (6 : Int32)), (.ref b5), (.ref b5)])) _
  refine XS.bipush X11.here hx rfl (hb hby at_74) ?_
  show Steps p.tables e below (T11.setTop (mkF m 76 #[s0, s1, s2, s3, .val (.int i4), s5, s6, s7] [(.int (6 : Int32)), (.int i4), (.int (6 : Int32)), (.ref b5), (.ref b5)])) _
  refine XS.iadd X11.here hx rfl (hb hby at_76) rfl ?_
  show Steps p.tables e below (T11.setTop (mkF m 77 #[s0, s1, s2, s3, .val (.int i4), s5, s6, s7] [(.int (i4 + (6 : Int32))), (.int (6 : Int32)), (.ref b5), (.ref b5)])) _
  refine XS.i2b X11.here hx rfl (hb hby at_77) rfl ?_
  show Steps p.tables e below (T11.setTop (mkF m 78 #[s0, s1, s2, s3, .val (.int i4), s5, s6, s7] [(.int ((i4 + (6 : Int32)).toInt8.toInt32)), (.int (6 : Int32)), (.ref b5), (.ref b5)])) _
  refine st12 _ ?_
  show Steps p.tables e below (T12.setTop (mkF m 79 #[s0, s1, s2, s3, .val (.int i4), s5, s6, s7] [(.ref b5)])) _
  refine XS.dup X12.here hx rfl (hb hby at_79) rfl rfl ?_
  show Steps p.tables e below (T12.setTop (mkF m 80 #[s0, s1, s2, s3, .val (.int i4), s5, s6, s7] [(.ref b5), (.ref b5)])) _
  refine XS.bipush X12.here hx rfl (hb hby at_80) ?_
  show Steps p.tables e below (T12.setTop (mkF m 82 #[s0, s1, s2, s3, .val (.int i4), s5, s6, s7] [(.int (7 : Int32)), (.ref b5), (.ref b5)])) _
  refine XS.iload X12.here hx rfl (hb hby at_82) rfl ?_
  show Steps p.tables e below (T12.setTop (mkF m 84 #[s0, s1, s2, s3, .val (.int i4), s5, s6, s7] [(.int i4), (.int (7 : Int32)), (.ref b5), (.ref b5)])) _
  refine XS.bipush X12.here hx rfl (hb hby at_84) ?_
  show Steps p.tables e below (T12.setTop (mkF m 86 #[s0, s1, s2, s3, .val (.int i4), s5, s6, s7] [(.int (7 : Int32)), (.int i4), (.int (7 : Int32)), (.ref b5), (.ref b5)])) _
  refine XS.iadd X12.here hx rfl (hb hby at_86) rfl ?_
  show Steps p.tables e below (T12.setTop (mkF m 87 #[s0, s1, s2, s3, .val (.int i4), s5, s6, s7] [(.int (i4 + (7 : Int32))), (.int (7 : Int32)), (.ref b5), (.ref b5)])) _
  refine XS.i2b X12.here hx rfl (hb hby at_87) rfl ?_
  show Steps p.tables e below (T12.setTop (mkF m 88 #[s0, s1, s2, s3, .val (.int i4), s5, s6, s7] [(.int ((i4 + (7 : Int32)).toInt8.toInt32)), (.int (7 : Int32)), (.ref b5), (.ref b5)])) _
  refine st13 _ ?_
  show Steps p.tables e below (T13.setTop (mkF m 89 #[s0, s1, s2, s3, .val (.int i4), s5, s6, s7] [(.ref b5)])) _
  refine XS.dup X13.here hx rfl (hb hby at_89) rfl rfl ?_
  show Steps p.tables e below (T13.setTop (mkF m 90 #[s0, s1, s2, s3, .val (.int i4), s5, s6, s7] [(.ref b5), (.ref b5)])) _
  refine XS.bipush X13.here hx rfl (hb hby at_90) ?_
  show Steps p.tables e below (T13.setTop (mkF m 92 #[s0, s1, s2, s3, .val (.int i4), s5, s6, s7] [(.int (8 : Int32)), (.ref b5), (.ref b5)])) _
  refine XS.iload X13.here hx rfl (hb hby at_92) rfl ?_
  show Steps p.tables e below (T13.setTop (mkF m 94 #[s0, s1, s2, s3, .val (.int i4), s5, s6, s7] [(.int i4), (.int (8 : Int32)), (.ref b5), (.ref b5)])) _
  refine XS.bipush X13.here hx rfl (hb hby at_94) ?_
  show Steps p.tables e below (T13.setTop (mkF m 96 #[s0, s1, s2, s3, .val (.int i4), s5, s6, s7] [(.int (8 : Int32)), (.int i4), (.int (8 : Int32)), (.ref b5), (.ref b5)])) _
  refine XS.iadd X13.here hx rfl (hb hby at_96) rfl ?_
  show Steps p.tables e below (T13.setTop (mkF m 97 #[s0, s1, s2, s3, .val (.int i4), s5, s6, s7] [(.int (i4 + (8 : Int32))), (.int (8 : Int32)), (.ref b5), (.ref b5)])) _
  refine XS.i2b X13.here hx rfl (hb hby at_97) rfl ?_
  show Steps p.tables e below (T13.setTop (mkF m 98 #[s0, s1, s2, s3, .val (.int i4), s5, s6, s7] [(.int ((i4 + (8 : Int32)).toInt8.toInt32)), (.int (8 : Int32)), (.ref b5), (.ref b5)])) _
  refine st14 _ ?_
  show Steps p.tables e below (T14.setTop (mkF m 99 #[s0, s1, s2, s3, .val (.int i4), s5, s6, s7] [(.ref b5)])) _
  refine XS.dup X14.here hx rfl (hb hby at_99) rfl rfl ?_
  show Steps p.tables e below (T14.setTop (mkF m 100 #[s0, s1, s2, s3, .val (.int i4), s5, s6, s7] [(.ref b5), (.ref b5)])) _
  refine XS.bipush X14.here hx rfl (hb hby at_100) ?_
  show Steps p.tables e below (T14.setTop (mkF m 102 #[s0, s1, s2, s3, .val (.int i4), s5, s6, s7] [(.int (9 : Int32)), (.ref b5), (.ref b5)])) _
  refine XS.iload X14.here hx rfl (hb hby at_102) rfl ?_
  show Steps p.tables e below (T14.setTop (mkF m 104 #[s0, s1, s2, s3, .val (.int i4), s5, s6, s7] [(.int i4), (.int (9 : Int32)), (.ref b5), (.ref b5)])) _
  refine XS.bipush X14.here hx rfl (hb hby at_104) ?_
  show Steps p.tables e below (T14.setTop (mkF m 106 #[s0, s1, s2, s3, .val (.int i4), s5, s6, s7] [(.int (9 : Int32)), (.int i4), (.int (9 : Int32)), (.ref b5), (.ref b5)])) _
  refine XS.iadd X14.here hx rfl (hb hby at_106) rfl ?_
  show Steps p.tables e below (T14.setTop (mkF m 107 #[s0, s1, s2, s3, .val (.int i4), s5, s6, s7] [(.int (i4 + (9 : Int32))), (.int (9 : Int32)), (.ref b5), (.ref b5)])) _
  refine XS.i2b X14.here hx rfl (hb hby at_107) rfl ?_
  show Steps p.tables e below (T14.setTop (mkF m 108 #[s0, s1, s2, s3, .val (.int i4), s5, s6, s7] [(.int ((i4 + (9 : Int32)).toInt8.toInt32)), (.int (9 : Int32)), (.ref b5), (.ref b5)])) _
  refine st15 _ ?_
  show Steps p.tables e below (T15.setTop (mkF m 109 #[s0, s1, s2, s3, .val (.int i4), s5, s6, s7] [(.ref b5)])) _
  refine XS.dup X15.here hx rfl (hb hby at_109) rfl rfl ?_
  show Steps p.tables e below (T15.setTop (mkF m 110 #[s0, s1, s2, s3, .val (.int i4), s5, s6, s7] [(.ref b5), (.ref b5)])) _
  refine XS.bipush X15.here hx rfl (hb hby at_110) ?_
  show Steps p.tables e below (T15.setTop (mkF m 112 #[s0, s1, s2, s3, .val (.int i4), s5, s6, s7] [(.int (10 : Int32)), (.ref b5), (.ref b5)])) _
  refine XS.iload X15.here hx rfl (hb hby at_112) rfl ?_
  show Steps p.tables e below (T15.setTop (mkF m 114 #[s0, s1, s2, s3, .val (.int i4), s5, s6, s7] [(.int i4), (.int (10 : Int32)), (.ref b5), (.ref b5)])) _
  refine XS.bipush X15.here hx rfl (hb hby at_114) ?_
  show Steps p.tables e below (T15.setTop (mkF m 116 #[s0, s1, s2, s3, .val (.int i4), s5, s6, s7] [(.int (10 : Int32)), (.int i4), (.int (10 : Int32)), (.ref b5), (.ref b5)])) _
  refine XS.iadd X15.here hx rfl (hb hby at_116) rfl ?_
  show Steps p.tables e below (T15.setTop (mkF m 117 #[s0, s1, s2, s3, .val (.int i4), s5, s6, s7] [(.int (i4 + (10 : Int32))), (.int (10 : Int32)), (.ref b5), (.ref b5)])) _
  refine XS.i2b X15.here hx rfl (hb hby at_117) rfl ?_
  show Steps p.tables e below (T15.setTop (mkF m 118 #[s0, s1, s2, s3, .val (.int i4), s5, s6, s7] [(.int ((i4 + (10 : Int32)).toInt8.toInt32)), (.int (10 : Int32)), (.ref b5), (.ref b5)])) _
  refine st16 _ ?_
  show Steps p.tables e below (T16.setTop (mkF m 119 #[s0, s1, s2, s3, .val (.int i4), s5, s6, s7] [(.ref b5)])) _
  refine XS.dup X16.here hx rfl (hb hby at_119) rfl rfl ?_
  show Steps p.tables e below (T16.setTop (mkF m 120 #[s0, s1, s2, s3, .val (.int i4), s5, s6, s7] [(.ref b5), (.ref b5)])) _
  refine XS.bipush X16.here hx rfl (hb hby at_120) ?_
  show Steps p.tables e below (T16.setTop (mkF m 122 #[s0, s1, s2, s3, .val (.int i4), s5, s6, s7] [(.int (11 : Int32)), (.ref b5), (.ref b5)])) _
  refine XS.iload X16.here hx rfl (hb hby at_122) rfl ?_
  show Steps p.tables e below (T16.setTop (mkF m 124 #[s0, s1, s2, s3, .val (.int i4), s5, s6, s7] [(.int i4), (.int (11 : Int32)), (.ref b5), (.ref b5)])) _
  refine XS.bipush X16.here hx rfl (hb hby at_124) ?_
  show Steps p.tables e below (T16.setTop (mkF m 126 #[s0, s1, s2, s3, .val (.int i4), s5, s6, s7] [(.int (11 : Int32)), (.int i4), (.int (11 : Int32)), (.ref b5), (.ref b5)])) _
  refine XS.iadd X16.here hx rfl (hb hby at_126) rfl ?_
  show Steps p.tables e below (T16.setTop (mkF m 127 #[s0, s1, s2, s3, .val (.int i4), s5, s6, s7] [(.int (i4 + (11 : Int32))), (.int (11 : Int32)), (.ref b5), (.ref b5)])) _
  refine XS.i2b X16.here hx rfl (hb hby at_127) rfl ?_
  show Steps p.tables e below (T16.setTop (mkF m 128 #[s0, s1, s2, s3, .val (.int i4), s5, s6, s7] [(.int ((i4 + (11 : Int32)).toInt8.toInt32)), (.int (11 : Int32)), (.ref b5), (.ref b5)])) _
  refine st17 _ ?_
  show Steps p.tables e below (T17.setTop (mkF m 129 #[s0, s1, s2, s3, .val (.int i4), s5, s6, s7] [(.ref b5)])) _
  refine XS.astore X17.here hx rfl (hb hby at_129) rfl rfl (l' := #[s0, s1, s2, s3, .val (.int i4), s5, s6, .val (.ref b5)]) (os0_129 hs7) ?_
  exact kt

theorem pd_0_0 : parseMethodDescriptor "([BIJI)V" = some ⟨[(.array .byte), .int, .long, .int], none⟩ := by decide +kernel
set_option maxRecDepth 65536 in
set_option maxHeartbeats 40000000 in
theorem tn0_131_141 {p : Program} {l : Launch} {e : Env} {s : State} {m : MethodId} {args : Array Value} {below : List Frame} {meth : Method} {c : Code} {T0 : State} {locs : List Loc} {Z : State} {a0 : Array Value} {h0 : Heap} (s0 : Slot) (j1 : Int64) (s3 : Slot) (s4 : Slot) (n o : Nat) (o7 : Addr) (f : Nat → Int32) (n0 : Nat)
    (X0 : Stand p l e room_1 s m args below meth c T0 locs 1 12) (hx : p.tables.exec = Jvm.exec) (hZ : Z.Warmed39 s.vm) (hw : ∀ d ∈ tables_1, d.before a0 Z = true) (hby : c.code = code) (hml : c.maxLocals = 8) (hown : s.vm.findClass "com/example/brindlemere/brindlemere/pages/BigEndianPutPinLaw" = some m.cls) (e0 : T0.heap = h0) (N0 : Fr n0 locs) (Z0 : n0 ≤ h0.size) (ho : o + n ≤ 12) (g_o7 : n0 ≤ o7) (V : own_ar Z h0 o7 f) :
    ∃ (T' : State) (h' : Heap) (locs' : List Loc), Stand p l e room_1 s m args below meth c T' locs' 1 12 ∧ T'.heap = h' ∧ Fr n0 locs' ∧ n0 ≤ h'.size ∧ own_ar Z h' o7 (own_g f o n j1 n) ∧
      ∀ target, Steps p.tables e below (T'.setTop (mkF m 141 #[s0, .val (.long j1), .second, s3, s4, .val (.int (Int32.ofNat n)), .val (.int (Int32.ofNat o)), .val (.ref o7)] [])) target → Steps p.tables e below (T0.setTop (mkF m 131 #[s0, .val (.long j1), .second, s3, s4, .val (.int (Int32.ofNat n)), .val (.int (Int32.ofNat o)), .val (.ref o7)] [])) target := by
  obtain ⟨_, _, ⟨T5, L5, k5, n5⟩, -, X5, ⟨Lc5, hQ5, l5, y5, z5⟩, st5⟩ := Jvm.LawKit.callS X0 hx (y := (⟨"com/example/brindlemere/brindlemere/pages/BigEndian", "put", "([BIJI)V"⟩ : MethodName)) hown (mvT hZ (hw _ (List.mem_of_getElem? (i := 2) rfl))) (mvT hZ (hw _ (List.mem_of_getElem? (i := 3) rfl))) (mvT hZ (hw _ (List.mem_of_getElem? (i := 4) rfl))) (mvT hZ (hw _ (List.mem_of_getElem? (i := 5) rfl))) (by decide) (backOf (W := 0) (rm1 l Z a0 hw [] o7 o n j1 f h0 n0 Z0 ho g_o7 V) hZ (hw _ (List.mem_of_getElem? (i := 5) rfl)) (hw _ (List.mem_of_getElem? (i := 4) rfl)) (by decide) (by decide)) (g := (mkF m 138 #[s0, .val (.long j1), .second, s3, s4, .val (.int (Int32.ofNat n)), .val (.int (Int32.ofNat o)), .val (.ref o7)] [(.int (Int32.ofNat n)), (.long j1), (.int (Int32.ofNat o)), (.ref o7)])) rfl (by rw [hml]; rfl) (argsL := [(.ref o7), (.int (Int32.ofNat o)), (.long j1), (.int (Int32.ofNat n))]) (rest := []) (lenOf pd_0_0 rfl) rfl (by show 2 * 0 + _ ≤ _; exact Nat.le_of_eq rfl) (hb hby at_138) (fun _ _ => ⟨rfl, e0, (by decide : 1 + 0 ≤ _), (by decide : 12 + 0 ≤ _)⟩)
  dsimp only [Pt.U, Pt.locs, Pt.cells, Pt.slots] at X5 l5 y5 z5 st5 hQ5
  subst l5 y5 z5
  obtain ⟨rfl, N5q, K5, V5⟩ := hQ5
  have N5 := Fr.app N0 N5q
  refine ⟨T5, _, _, X5, rfl, N5, Nat.le_trans Z0 K5.1, V5, fun target kt => ?_⟩
  show Steps p.tables e below (T0.setTop (mkF m 131 #[s0, .val (.long j1), .second, s3, s4, .val (.int (Int32.ofNat n)), .val (.int (Int32.ofNat o)), .val (.ref o7)] [])) _
  refine XS.aload X0.here hx rfl (hb hby at_131) rfl rfl ?_
  show Steps p.tables e below (T0.setTop (mkF m 133 #[s0, .val (.long j1), .second, s3, s4, .val (.int (Int32.ofNat n)), .val (.int (Int32.ofNat o)), .val (.ref o7)] [(.ref o7)])) _
  refine XS.iload X0.here hx rfl (hb hby at_133) rfl ?_
  show Steps p.tables e below (T0.setTop (mkF m 135 #[s0, .val (.long j1), .second, s3, s4, .val (.int (Int32.ofNat n)), .val (.int (Int32.ofNat o)), .val (.ref o7)] [(.int (Int32.ofNat o)), (.ref o7)])) _
  refine XS.lloadN X0.here hx rfl (hb hby at_135) rfl ?_
  show Steps p.tables e below (T0.setTop (mkF m 136 #[s0, .val (.long j1), .second, s3, s4, .val (.int (Int32.ofNat n)), .val (.int (Int32.ofNat o)), .val (.ref o7)] [(.long j1), (.int (Int32.ofNat o)), (.ref o7)])) _
  refine XS.iload X0.here hx rfl (hb hby at_136) rfl ?_
  show Steps p.tables e below (T0.setTop (mkF m 138 #[s0, .val (.long j1), .second, s3, s4, .val (.int (Int32.ofNat n)), .val (.int (Int32.ofNat o)), .val (.ref o7)] [(.int (Int32.ofNat n)), (.long j1), (.int (Int32.ofNat o)), (.ref o7)])) _
  refine st5 _ ?_
  exact kt

theorem pd_0_1 : parseMethodDescriptor "([BIIJII)Z" = some ⟨[(.array .byte), .int, .int, .long, .int, .int], some .boolean⟩ := by decide +kernel
set_option maxRecDepth 65536 in
set_option maxHeartbeats 40000000 in
theorem tn0_141_157 {p : Program} {l : Launch} {e : Env} {s : State} {m : MethodId} {args : Array Value} {below : List Frame} {meth : Method} {c : Code} {T0 : State} {locs : List Loc} {Z : State} {a0 : Array Value} {h0 : Heap} (s0 : Slot) (j1 : Int64) (s3 : Slot) (i4 : Int32) (i5 : Int32) (i6 : Int32) (o7 : Addr) (f : Nat → Int32) (n0 : Nat)
    (X0 : Stand p l e room_1 s m args below meth c T0 locs 1 12) (hx : p.tables.exec = Jvm.exec) (hZ : Z.Warmed39 s.vm) (hw : ∀ d ∈ tables_1, d.before a0 Z = true) (hby : c.code = code) (hml : c.maxLocals = 8) (hown : s.vm.findClass "com/example/brindlemere/brindlemere/pages/BigEndianPutPinLaw" = some m.cls) (e0 : T0.heap = h0) (N0 : Fr n0 locs) (Z0 : n0 ≤ h0.size) (V : own_ar Z h0 o7 f) (hv : f 0 = own_e i4 i6 i5 j1 (0 : Int32)) :
    ∃ (T' : State) (locs' : List Loc), Stand p l e room_1 s m args below meth c T' locs' 1 12 ∧ T'.heap = h0 ∧ Fr n0 locs' ∧
      ∀ target, Steps p.tables e below (T'.setTop (mkF m 157 #[s0, .val (.long j1), .second, s3, .val (.int i4), .val (.int i5), .val (.int i6), .val (.ref o7)] [])) target → Steps p.tables e below (T0.setTop (mkF m 141 #[s0, .val (.long j1), .second, s3, .val (.int i4), .val (.int i5), .val (.int i6), .val (.ref o7)] [])) target := by
  obtain ⟨cl, A, S, H⟩ := V
  obtain ⟨_, _, ⟨T5, L5, k5, n5⟩, -, X5, ⟨Lc5, hQ5, l5, y5, z5⟩, st5⟩ := Jvm.LawKit.callS X0 hx (y := (⟨"com/example/brindlemere/brindlemere/pages/BigEndianPutPinLaw", "ok", "([BIIJII)Z"⟩ : MethodName)) hown (mvT hZ (hw _ (List.mem_of_getElem? (i := 6) rfl))) (mvT hZ (hw _ (List.mem_of_getElem? (i := 7) rfl))) (mvT hZ (hw _ (List.mem_of_getElem? (i := 8) rfl))) (mvT hZ (hw _ (List.mem_of_getElem? (i := 9) rfl))) (by decide) (backOf (W := 0) (rm2 l Z a0 hw [] o7 (0 : Int32) i6 j1 i5 i4 (f 0) cl h0 n0 Z0 A (own_inb S (by decide) (by decide)) (H 0 (by decide)) hv) hZ (hw _ (List.mem_of_getElem? (i := 9) rfl)) (hw _ (List.mem_of_getElem? (i := 8) rfl)) (by decide) (by decide)) (g := (mkF m 151 #[s0, .val (.long j1), .second, s3, .val (.int i4), .val (.int i5), .val (.int i6), .val (.ref o7)] [(.int i4), (.int i5), (.long j1), (.int i6), (.int (0 : Int32)), (.ref o7)])) rfl (by rw [hml]; rfl) (argsL := [(.ref o7), (.int (0 : Int32)), (.int i6), (.long j1), (.int i5), (.int i4)]) (rest := []) (lenOf pd_0_1 rfl) rfl (by show 2 * 0 + _ ≤ _; exact Nat.le_of_eq rfl) (hb hby at_151) (fun _ _ => ⟨rfl, e0, (by decide : 1 + 0 ≤ _), (by decide : 12 + 0 ≤ _)⟩)
  dsimp only [Pt.U, Pt.locs, Pt.cells, Pt.slots] at X5 l5 y5 z5 st5 hQ5
  subst l5 y5 z5
  obtain ⟨rfl, N5q, H5⟩ := hQ5
  have N5 := Fr.app N0 N5q
  refine ⟨T5, _, X5, H5, N5, fun target kt => ?_⟩
  show Steps p.tables e below (T0.setTop (mkF m 141 #[s0, .val (.long j1), .second, s3, .val (.int i4), .val (.int i5), .val (.int i6), .val (.ref o7)] [])) _
  refine XS.aload X0.here hx rfl (hb hby at_141) rfl rfl ?_
  show Steps p.tables e below (T0.setTop (mkF m 143 #[s0, .val (.long j1), .second, s3, .val (.int i4), .val (.int i5), .val (.int i6), .val (.ref o7)] [(.ref o7)])) _
  refine XS.iconst X0.here hx rfl (hb hby at_143) ?_
  show Steps p.tables e below (T0.setTop (mkF m 144 #[s0, .val (.long j1), .second, s3, .val (.int i4), .val (.int i5), .val (.int i6), .val (.ref o7)] [(.int (0 : Int32)), (.ref o7)])) _
  refine XS.iload X0.here hx rfl (hb hby at_144) rfl ?_
  show Steps p.tables e below (T0.setTop (mkF m 146 #[s0, .val (.long j1), .second, s3, .val (.int i4), .val (.int i5), .val (.int i6), .val (.ref o7)] [(.int i6), (.int (0 : Int32)), (.ref o7)])) _
  refine XS.lloadN X0.here hx rfl (hb hby at_146) rfl ?_
  show Steps p.tables e below (T0.setTop (mkF m 147 #[s0, .val (.long j1), .second, s3, .val (.int i4), .val (.int i5), .val (.int i6), .val (.ref o7)] [(.long j1), (.int i6), (.int (0 : Int32)), (.ref o7)])) _
  refine XS.iload X0.here hx rfl (hb hby at_147) rfl ?_
  show Steps p.tables e below (T0.setTop (mkF m 149 #[s0, .val (.long j1), .second, s3, .val (.int i4), .val (.int i5), .val (.int i6), .val (.ref o7)] [(.int i5), (.long j1), (.int i6), (.int (0 : Int32)), (.ref o7)])) _
  refine XS.iload X0.here hx rfl (hb hby at_149) rfl ?_
  show Steps p.tables e below (T0.setTop (mkF m 151 #[s0, .val (.long j1), .second, s3, .val (.int i4), .val (.int i5), .val (.int i6), .val (.ref o7)] [(.int i4), (.int i5), (.long j1), (.int i6), (.int (0 : Int32)), (.ref o7)])) _
  refine st5 _ ?_
  show Steps p.tables e below (T5.setTop (mkF m 154 #[s0, .val (.long j1), .second, s3, .val (.int i4), .val (.int i5), .val (.int i6), .val (.ref o7)] [(.int (1 : Int32))])) _
  refine XS.ifNo X5.here hx rfl (hb hby at_154) rfl ((if0 _ _).trans (feq (by decide : ¬ ((1 : Int32) = (0 : Int32)))).1) ?_
  exact kt

set_option maxRecDepth 65536 in
set_option maxHeartbeats 40000000 in
theorem tn0_157_173 {p : Program} {l : Launch} {e : Env} {s : State} {m : MethodId} {args : Array Value} {below : List Frame} {meth : Method} {c : Code} {T0 : State} {locs : List Loc} {Z : State} {a0 : Array Value} {h0 : Heap} (s0 : Slot) (j1 : Int64) (s3 : Slot) (i4 : Int32) (i5 : Int32) (i6 : Int32) (o7 : Addr) (f : Nat → Int32) (n0 : Nat)
    (X0 : Stand p l e room_1 s m args below meth c T0 locs 1 12) (hx : p.tables.exec = Jvm.exec) (hZ : Z.Warmed39 s.vm) (hw : ∀ d ∈ tables_1, d.before a0 Z = true) (hby : c.code = code) (hml : c.maxLocals = 8) (hown : s.vm.findClass "com/example/brindlemere/brindlemere/pages/BigEndianPutPinLaw" = some m.cls) (e0 : T0.heap = h0) (N0 : Fr n0 locs) (Z0 : n0 ≤ h0.size) (V : own_ar Z h0 o7 f) (hv : f 1 = own_e i4 i6 i5 j1 (1 : Int32)) :
    ∃ (T' : State) (locs' : List Loc), Stand p l e room_1 s m args below meth c T' locs' 1 12 ∧ T'.heap = h0 ∧ Fr n0 locs' ∧
      ∀ target, Steps p.tables e below (T'.setTop (mkF m 173 #[s0, .val (.long j1), .second, s3, .val (.int i4), .val (.int i5), .val (.int i6), .val (.ref o7)] [])) target → Steps p.tables e below (T0.setTop (mkF m 157 #[s0, .val (.long j1), .second, s3, .val (.int i4), .val (.int i5), .val (.int i6), .val (.ref o7)] [])) target := by
  obtain ⟨cl, A, S, H⟩ := V
  obtain ⟨_, _, ⟨T5, L5, k5, n5⟩, -, X5, ⟨Lc5, hQ5, l5, y5, z5⟩, st5⟩ := Jvm.LawKit.callS X0 hx (y := (⟨"com/example/brindlemere/brindlemere/pages/BigEndianPutPinLaw", "ok", "([BIIJII)Z"⟩ : MethodName)) hown (mvT hZ (hw _ (List.mem_of_getElem? (i := 6) rfl))) (mvT hZ (hw _ (List.mem_of_getElem? (i := 7) rfl))) (mvT hZ (hw _ (List.mem_of_getElem? (i := 8) rfl))) (mvT hZ (hw _ (List.mem_of_getElem? (i := 9) rfl))) (by decide) (backOf (W := 0) (rm2 l Z a0 hw [] o7 (1 : Int32) i6 j1 i5 i4 (f 1) cl h0 n0 Z0 A (own_inb S (by decide) (by decide)) (H 1 (by decide)) hv) hZ (hw _ (List.mem_of_getElem? (i := 9) rfl)) (hw _ (List.mem_of_getElem? (i := 8) rfl)) (by decide) (by decide)) (g := (mkF m 167 #[s0, .val (.long j1), .second, s3, .val (.int i4), .val (.int i5), .val (.int i6), .val (.ref o7)] [(.int i4), (.int i5), (.long j1), (.int i6), (.int (1 : Int32)), (.ref o7)])) rfl (by rw [hml]; rfl) (argsL := [(.ref o7), (.int (1 : Int32)), (.int i6), (.long j1), (.int i5), (.int i4)]) (rest := []) (lenOf pd_0_1 rfl) rfl (by show 2 * 0 + _ ≤ _; exact Nat.le_of_eq rfl) (hb hby at_167) (fun _ _ => ⟨rfl, e0, (by decide : 1 + 0 ≤ _), (by decide : 12 + 0 ≤ _)⟩)
  dsimp only [Pt.U, Pt.locs, Pt.cells, Pt.slots] at X5 l5 y5 z5 st5 hQ5
  subst l5 y5 z5
  obtain ⟨rfl, N5q, H5⟩ := hQ5
  have N5 := Fr.app N0 N5q
  refine ⟨T5, _, X5, H5, N5, fun target kt => ?_⟩
  show Steps p.tables e below (T0.setTop (mkF m 157 #[s0, .val (.long j1), .second, s3, .val (.int i4), .val (.int i5), .val (.int i6), .val (.ref o7)] [])) _
  refine XS.aload X0.here hx rfl (hb hby at_157) rfl rfl ?_
  show Steps p.tables e below (T0.setTop (mkF m 159 #[s0, .val (.long j1), .second, s3, .val (.int i4), .val (.int i5), .val (.int i6), .val (.ref o7)] [(.ref o7)])) _
  refine XS.iconst X0.here hx rfl (hb hby at_159) ?_
  show Steps p.tables e below (T0.setTop (mkF m 160 #[s0, .val (.long j1), .second, s3, .val (.int i4), .val (.int i5), .val (.int i6), .val (.ref o7)] [(.int (1 : Int32)), (.ref o7)])) _
  refine XS.iload X0.here hx rfl (hb hby at_160) rfl ?_
  show Steps p.tables e below (T0.setTop (mkF m 162 #[s0, .val (.long j1), .second, s3, .val (.int i4), .val (.int i5), .val (.int i6), .val (.ref o7)] [(.int i6), (.int (1 : Int32)), (.ref o7)])) _
  refine XS.lloadN X0.here hx rfl (hb hby at_162) rfl ?_
  show Steps p.tables e below (T0.setTop (mkF m 163 #[s0, .val (.long j1), .second, s3, .val (.int i4), .val (.int i5), .val (.int i6), .val (.ref o7)] [(.long j1), (.int i6), (.int (1 : Int32)), (.ref o7)])) _
  refine XS.iload X0.here hx rfl (hb hby at_163) rfl ?_
  show Steps p.tables e below (T0.setTop (mkF m 165 #[s0, .val (.long j1), .second, s3, .val (.int i4), .val (.int i5), .val (.int i6), .val (.ref o7)] [(.int i5), (.long j1), (.int i6), (.int (1 : Int32)), (.ref o7)])) _
  refine XS.iload X0.here hx rfl (hb hby at_165) rfl ?_
  show Steps p.tables e below (T0.setTop (mkF m 167 #[s0, .val (.long j1), .second, s3, .val (.int i4), .val (.int i5), .val (.int i6), .val (.ref o7)] [(.int i4), (.int i5), (.long j1), (.int i6), (.int (1 : Int32)), (.ref o7)])) _
  refine st5 _ ?_
  show Steps p.tables e below (T5.setTop (mkF m 170 #[s0, .val (.long j1), .second, s3, .val (.int i4), .val (.int i5), .val (.int i6), .val (.ref o7)] [(.int (1 : Int32))])) _
  refine XS.ifNo X5.here hx rfl (hb hby at_170) rfl ((if0 _ _).trans (feq (by decide : ¬ ((1 : Int32) = (0 : Int32)))).1) ?_
  exact kt

set_option maxRecDepth 65536 in
set_option maxHeartbeats 40000000 in
theorem tn0_173_189 {p : Program} {l : Launch} {e : Env} {s : State} {m : MethodId} {args : Array Value} {below : List Frame} {meth : Method} {c : Code} {T0 : State} {locs : List Loc} {Z : State} {a0 : Array Value} {h0 : Heap} (s0 : Slot) (j1 : Int64) (s3 : Slot) (i4 : Int32) (i5 : Int32) (i6 : Int32) (o7 : Addr) (f : Nat → Int32) (n0 : Nat)
    (X0 : Stand p l e room_1 s m args below meth c T0 locs 1 12) (hx : p.tables.exec = Jvm.exec) (hZ : Z.Warmed39 s.vm) (hw : ∀ d ∈ tables_1, d.before a0 Z = true) (hby : c.code = code) (hml : c.maxLocals = 8) (hown : s.vm.findClass "com/example/brindlemere/brindlemere/pages/BigEndianPutPinLaw" = some m.cls) (e0 : T0.heap = h0) (N0 : Fr n0 locs) (Z0 : n0 ≤ h0.size) (V : own_ar Z h0 o7 f) (hv : f 2 = own_e i4 i6 i5 j1 (2 : Int32)) :
    ∃ (T' : State) (locs' : List Loc), Stand p l e room_1 s m args below meth c T' locs' 1 12 ∧ T'.heap = h0 ∧ Fr n0 locs' ∧
      ∀ target, Steps p.tables e below (T'.setTop (mkF m 189 #[s0, .val (.long j1), .second, s3, .val (.int i4), .val (.int i5), .val (.int i6), .val (.ref o7)] [])) target → Steps p.tables e below (T0.setTop (mkF m 173 #[s0, .val (.long j1), .second, s3, .val (.int i4), .val (.int i5), .val (.int i6), .val (.ref o7)] [])) target := by
  obtain ⟨cl, A, S, H⟩ := V
  obtain ⟨_, _, ⟨T5, L5, k5, n5⟩, -, X5, ⟨Lc5, hQ5, l5, y5, z5⟩, st5⟩ := Jvm.LawKit.callS X0 hx (y := (⟨"com/example/brindlemere/brindlemere/pages/BigEndianPutPinLaw", "ok", "([BIIJII)Z"⟩ : MethodName)) hown (mvT hZ (hw _ (List.mem_of_getElem? (i := 6) rfl))) (mvT hZ (hw _ (List.mem_of_getElem? (i := 7) rfl))) (mvT hZ (hw _ (List.mem_of_getElem? (i := 8) rfl))) (mvT hZ (hw _ (List.mem_of_getElem? (i := 9) rfl))) (by decide) (backOf (W := 0) (rm2 l Z a0 hw [] o7 (2 : Int32) i6 j1 i5 i4 (f 2) cl h0 n0 Z0 A (own_inb S (by decide) (by decide)) (H 2 (by decide)) hv) hZ (hw _ (List.mem_of_getElem? (i := 9) rfl)) (hw _ (List.mem_of_getElem? (i := 8) rfl)) (by decide) (by decide)) (g := (mkF m 183 #[s0, .val (.long j1), .second, s3, .val (.int i4), .val (.int i5), .val (.int i6), .val (.ref o7)] [(.int i4), (.int i5), (.long j1), (.int i6), (.int (2 : Int32)), (.ref o7)])) rfl (by rw [hml]; rfl) (argsL := [(.ref o7), (.int (2 : Int32)), (.int i6), (.long j1), (.int i5), (.int i4)]) (rest := []) (lenOf pd_0_1 rfl) rfl (by show 2 * 0 + _ ≤ _; exact Nat.le_of_eq rfl) (hb hby at_183) (fun _ _ => ⟨rfl, e0, (by decide : 1 + 0 ≤ _), (by decide : 12 + 0 ≤ _)⟩)
  dsimp only [Pt.U, Pt.locs, Pt.cells, Pt.slots] at X5 l5 y5 z5 st5 hQ5
  subst l5 y5 z5
  obtain ⟨rfl, N5q, H5⟩ := hQ5
  have N5 := Fr.app N0 N5q
  refine ⟨T5, _, X5, H5, N5, fun target kt => ?_⟩
  show Steps p.tables e below (T0.setTop (mkF m 173 #[s0, .val (.long j1), .second, s3, .val (.int i4), .val (.int i5), .val (.int i6), .val (.ref o7)] [])) _
  refine XS.aload X0.here hx rfl (hb hby at_173) rfl rfl ?_
  show Steps p.tables e below (T0.setTop (mkF m 175 #[s0, .val (.long j1), .second, s3, .val (.int i4), .val (.int i5), .val (.int i6), .val (.ref o7)] [(.ref o7)])) _
  refine XS.iconst X0.here hx rfl (hb hby at_175) ?_
  show Steps p.tables e below (T0.setTop (mkF m 176 #[s0, .val (.long j1), .second, s3, .val (.int i4), .val (.int i5), .val (.int i6), .val (.ref o7)] [(.int (2 : Int32)), (.ref o7)])) _
  refine XS.iload X0.here hx rfl (hb hby at_176) rfl ?_
  show Steps p.tables e below (T0.setTop (mkF m 178 #[s0, .val (.long j1), .second, s3, .val (.int i4), .val (.int i5), .val (.int i6), .val (.ref o7)] [(.int i6), (.int (2 : Int32)), (.ref o7)])) _
  refine XS.lloadN X0.here hx rfl (hb hby at_178) rfl ?_
  show Steps p.tables e below (T0.setTop (mkF m 179 #[s0, .val (.long j1), .second, s3, .val (.int i4), .val (.int i5), .val (.int i6), .val (.ref o7)] [(.long j1), (.int i6), (.int (2 : Int32)), (.ref o7)])) _
  refine XS.iload X0.here hx rfl (hb hby at_179) rfl ?_
  show Steps p.tables e below (T0.setTop (mkF m 181 #[s0, .val (.long j1), .second, s3, .val (.int i4), .val (.int i5), .val (.int i6), .val (.ref o7)] [(.int i5), (.long j1), (.int i6), (.int (2 : Int32)), (.ref o7)])) _
  refine XS.iload X0.here hx rfl (hb hby at_181) rfl ?_
  show Steps p.tables e below (T0.setTop (mkF m 183 #[s0, .val (.long j1), .second, s3, .val (.int i4), .val (.int i5), .val (.int i6), .val (.ref o7)] [(.int i4), (.int i5), (.long j1), (.int i6), (.int (2 : Int32)), (.ref o7)])) _
  refine st5 _ ?_
  show Steps p.tables e below (T5.setTop (mkF m 186 #[s0, .val (.long j1), .second, s3, .val (.int i4), .val (.int i5), .val (.int i6), .val (.ref o7)] [(.int (1 : Int32))])) _
  refine XS.ifNo X5.here hx rfl (hb hby at_186) rfl ((if0 _ _).trans (feq (by decide : ¬ ((1 : Int32) = (0 : Int32)))).1) ?_
  exact kt

set_option maxRecDepth 65536 in
set_option maxHeartbeats 40000000 in
theorem tn0_189_205 {p : Program} {l : Launch} {e : Env} {s : State} {m : MethodId} {args : Array Value} {below : List Frame} {meth : Method} {c : Code} {T0 : State} {locs : List Loc} {Z : State} {a0 : Array Value} {h0 : Heap} (s0 : Slot) (j1 : Int64) (s3 : Slot) (i4 : Int32) (i5 : Int32) (i6 : Int32) (o7 : Addr) (f : Nat → Int32) (n0 : Nat)
    (X0 : Stand p l e room_1 s m args below meth c T0 locs 1 12) (hx : p.tables.exec = Jvm.exec) (hZ : Z.Warmed39 s.vm) (hw : ∀ d ∈ tables_1, d.before a0 Z = true) (hby : c.code = code) (hml : c.maxLocals = 8) (hown : s.vm.findClass "com/example/brindlemere/brindlemere/pages/BigEndianPutPinLaw" = some m.cls) (e0 : T0.heap = h0) (N0 : Fr n0 locs) (Z0 : n0 ≤ h0.size) (V : own_ar Z h0 o7 f) (hv : f 3 = own_e i4 i6 i5 j1 (3 : Int32)) :
    ∃ (T' : State) (locs' : List Loc), Stand p l e room_1 s m args below meth c T' locs' 1 12 ∧ T'.heap = h0 ∧ Fr n0 locs' ∧
      ∀ target, Steps p.tables e below (T'.setTop (mkF m 205 #[s0, .val (.long j1), .second, s3, .val (.int i4), .val (.int i5), .val (.int i6), .val (.ref o7)] [])) target → Steps p.tables e below (T0.setTop (mkF m 189 #[s0, .val (.long j1), .second, s3, .val (.int i4), .val (.int i5), .val (.int i6), .val (.ref o7)] [])) target := by
  obtain ⟨cl, A, S, H⟩ := V
  obtain ⟨_, _, ⟨T5, L5, k5, n5⟩, -, X5, ⟨Lc5, hQ5, l5, y5, z5⟩, st5⟩ := Jvm.LawKit.callS X0 hx (y := (⟨"com/example/brindlemere/brindlemere/pages/BigEndianPutPinLaw", "ok", "([BIIJII)Z"⟩ : MethodName)) hown (mvT hZ (hw _ (List.mem_of_getElem? (i := 6) rfl))) (mvT hZ (hw _ (List.mem_of_getElem? (i := 7) rfl))) (mvT hZ (hw _ (List.mem_of_getElem? (i := 8) rfl))) (mvT hZ (hw _ (List.mem_of_getElem? (i := 9) rfl))) (by decide) (backOf (W := 0) (rm2 l Z a0 hw [] o7 (3 : Int32) i6 j1 i5 i4 (f 3) cl h0 n0 Z0 A (own_inb S (by decide) (by decide)) (H 3 (by decide)) hv) hZ (hw _ (List.mem_of_getElem? (i := 9) rfl)) (hw _ (List.mem_of_getElem? (i := 8) rfl)) (by decide) (by decide)) (g := (mkF m 199 #[s0, .val (.long j1), .second, s3, .val (.int i4), .val (.int i5), .val (.int i6), .val (.ref o7)] [(.int i4), (.int i5), (.long j1), (.int i6), (.int (3 : Int32)), (.ref o7)])) rfl (by rw [hml]; rfl) (argsL := [(.ref o7), (.int (3 : Int32)), (.int i6), (.long j1), (.int i5), (.int i4)]) (rest := []) (lenOf pd_0_1 rfl) rfl (by show 2 * 0 + _ ≤ _; exact Nat.le_of_eq rfl) (hb hby at_199) (fun _ _ => ⟨rfl, e0, (by decide : 1 + 0 ≤ _), (by decide : 12 + 0 ≤ _)⟩)
  dsimp only [Pt.U, Pt.locs, Pt.cells, Pt.slots] at X5 l5 y5 z5 st5 hQ5
  subst l5 y5 z5
  obtain ⟨rfl, N5q, H5⟩ := hQ5
  have N5 := Fr.app N0 N5q
  refine ⟨T5, _, X5, H5, N5, fun target kt => ?_⟩
  show Steps p.tables e below (T0.setTop (mkF m 189 #[s0, .val (.long j1), .second, s3, .val (.int i4), .val (.int i5), .val (.int i6), .val (.ref o7)] [])) _
  refine XS.aload X0.here hx rfl (hb hby at_189) rfl rfl ?_
  show Steps p.tables e below (T0.setTop (mkF m 191 #[s0, .val (.long j1), .second, s3, .val (.int i4), .val (.int i5), .val (.int i6), .val (.ref o7)] [(.ref o7)])) _
  refine XS.iconst X0.here hx rfl (hb hby at_191) ?_
  show Steps p.tables e below (T0.setTop (mkF m 192 #[s0, .val (.long j1), .second, s3, .val (.int i4), .val (.int i5), .val (.int i6), .val (.ref o7)] [(.int (3 : Int32)), (.ref o7)])) _
  refine XS.iload X0.here hx rfl (hb hby at_192) rfl ?_
  show Steps p.tables e below (T0.setTop (mkF m 194 #[s0, .val (.long j1), .second, s3, .val (.int i4), .val (.int i5), .val (.int i6), .val (.ref o7)] [(.int i6), (.int (3 : Int32)), (.ref o7)])) _
  refine XS.lloadN X0.here hx rfl (hb hby at_194) rfl ?_
  show Steps p.tables e below (T0.setTop (mkF m 195 #[s0, .val (.long j1), .second, s3, .val (.int i4), .val (.int i5), .val (.int i6), .val (.ref o7)] [(.long j1), (.int i6), (.int (3 : Int32)), (.ref o7)])) _
  refine XS.iload X0.here hx rfl (hb hby at_195) rfl ?_
  show Steps p.tables e below (T0.setTop (mkF m 197 #[s0, .val (.long j1), .second, s3, .val (.int i4), .val (.int i5), .val (.int i6), .val (.ref o7)] [(.int i5), (.long j1), (.int i6), (.int (3 : Int32)), (.ref o7)])) _
  refine XS.iload X0.here hx rfl (hb hby at_197) rfl ?_
  show Steps p.tables e below (T0.setTop (mkF m 199 #[s0, .val (.long j1), .second, s3, .val (.int i4), .val (.int i5), .val (.int i6), .val (.ref o7)] [(.int i4), (.int i5), (.long j1), (.int i6), (.int (3 : Int32)), (.ref o7)])) _
  refine st5 _ ?_
  show Steps p.tables e below (T5.setTop (mkF m 202 #[s0, .val (.long j1), .second, s3, .val (.int i4), .val (.int i5), .val (.int i6), .val (.ref o7)] [(.int (1 : Int32))])) _
  refine XS.ifNo X5.here hx rfl (hb hby at_202) rfl ((if0 _ _).trans (feq (by decide : ¬ ((1 : Int32) = (0 : Int32)))).1) ?_
  exact kt

set_option maxRecDepth 65536 in
set_option maxHeartbeats 40000000 in
theorem tn0_205_221 {p : Program} {l : Launch} {e : Env} {s : State} {m : MethodId} {args : Array Value} {below : List Frame} {meth : Method} {c : Code} {T0 : State} {locs : List Loc} {Z : State} {a0 : Array Value} {h0 : Heap} (s0 : Slot) (j1 : Int64) (s3 : Slot) (i4 : Int32) (i5 : Int32) (i6 : Int32) (o7 : Addr) (f : Nat → Int32) (n0 : Nat)
    (X0 : Stand p l e room_1 s m args below meth c T0 locs 1 12) (hx : p.tables.exec = Jvm.exec) (hZ : Z.Warmed39 s.vm) (hw : ∀ d ∈ tables_1, d.before a0 Z = true) (hby : c.code = code) (hml : c.maxLocals = 8) (hown : s.vm.findClass "com/example/brindlemere/brindlemere/pages/BigEndianPutPinLaw" = some m.cls) (e0 : T0.heap = h0) (N0 : Fr n0 locs) (Z0 : n0 ≤ h0.size) (V : own_ar Z h0 o7 f) (hv : f 4 = own_e i4 i6 i5 j1 (4 : Int32)) :
    ∃ (T' : State) (locs' : List Loc), Stand p l e room_1 s m args below meth c T' locs' 1 12 ∧ T'.heap = h0 ∧ Fr n0 locs' ∧
      ∀ target, Steps p.tables e below (T'.setTop (mkF m 221 #[s0, .val (.long j1), .second, s3, .val (.int i4), .val (.int i5), .val (.int i6), .val (.ref o7)] [])) target → Steps p.tables e below (T0.setTop (mkF m 205 #[s0, .val (.long j1), .second, s3, .val (.int i4), .val (.int i5), .val (.int i6), .val (.ref o7)] [])) target := by
  obtain ⟨cl, A, S, H⟩ := V
  obtain ⟨_, _, ⟨T5, L5, k5, n5⟩, -, X5, ⟨Lc5, hQ5, l5, y5, z5⟩, st5⟩ := Jvm.LawKit.callS X0 hx (y := (⟨"com/example/brindlemere/brindlemere/pages/BigEndianPutPinLaw", "ok", "([BIIJII)Z"⟩ : MethodName)) hown (mvT hZ (hw _ (List.mem_of_getElem? (i := 6) rfl))) (mvT hZ (hw _ (List.mem_of_getElem? (i := 7) rfl))) (mvT hZ (hw _ (List.mem_of_getElem? (i := 8) rfl))) (mvT hZ (hw _ (List.mem_of_getElem? (i := 9) rfl))) (by decide) (backOf (W := 0) (rm2 l Z a0 hw [] o7 (4 : Int32) i6 j1 i5 i4 (f 4) cl h0 n0 Z0 A (own_inb S (by decide) (by decide)) (H 4 (by decide)) hv) hZ (hw _ (List.mem_of_getElem? (i := 9) rfl)) (hw _ (List.mem_of_getElem? (i := 8) rfl)) (by decide) (by decide)) (g := (mkF m 215 #[s0, .val (.long j1), .second, s3, .val (.int i4), .val (.int i5), .val (.int i6), .val (.ref o7)] [(.int i4), (.int i5), (.long j1), (.int i6), (.int (4 : Int32)), (.ref o7)])) rfl (by rw [hml]; rfl) (argsL := [(.ref o7), (.int (4 : Int32)), (.int i6), (.long j1), (.int i5), (.int i4)]) (rest := []) (lenOf pd_0_1 rfl) rfl (by show 2 * 0 + _ ≤ _; exact Nat.le_of_eq rfl) (hb hby at_215) (fun _ _ => ⟨rfl, e0, (by decide : 1 + 0 ≤ _), (by decide : 12 + 0 ≤ _)⟩)
  dsimp only [Pt.U, Pt.locs, Pt.cells, Pt.slots] at X5 l5 y5 z5 st5 hQ5
  subst l5 y5 z5
  obtain ⟨rfl, N5q, H5⟩ := hQ5
  have N5 := Fr.app N0 N5q
  refine ⟨T5, _, X5, H5, N5, fun target kt => ?_⟩
  show Steps p.tables e below (T0.setTop (mkF m 205 #[s0, .val (.long j1), .second, s3, .val (.int i4), .val (.int i5), .val (.int i6), .val (.ref o7)] [])) _
  refine XS.aload X0.here hx rfl (hb hby at_205) rfl rfl ?_
  show Steps p.tables e below (T0.setTop (mkF m 207 #[s0, .val (.long j1), .second, s3, .val (.int i4), .val (.int i5), .val (.int i6), .val (.ref o7)] [(.ref o7)])) _
  refine XS.iconst X0.here hx rfl (hb hby at_207) ?_
  show Steps p.tables e below (T0.setTop (mkF m 208 #[s0, .val (.long j1), .second, s3, .val (.int i4), .val (.int i5), .val (.int i6), .val (.ref o7)] [(.int (4 : Int32)), (.ref o7)])) _
  refine XS.iload X0.here hx rfl (hb hby at_208) rfl ?_
  show Steps p.tables e below (T0.setTop (mkF m 210 #[s0, .val (.long j1), .second, s3, .val (.int i4), .val (.int i5), .val (.int i6), .val (.ref o7)] [(.int i6), (.int (4 : Int32)), (.ref o7)])) _
  refine XS.lloadN X0.here hx rfl (hb hby at_210) rfl ?_
  show Steps p.tables e below (T0.setTop (mkF m 211 #[s0, .val (.long j1), .second, s3, .val (.int i4), .val (.int i5), .val (.int i6), .val (.ref o7)] [(.long j1), (.int i6), (.int (4 : Int32)), (.ref o7)])) _
  refine XS.iload X0.here hx rfl (hb hby at_211) rfl ?_
  show Steps p.tables e below (T0.setTop (mkF m 213 #[s0, .val (.long j1), .second, s3, .val (.int i4), .val (.int i5), .val (.int i6), .val (.ref o7)] [(.int i5), (.long j1), (.int i6), (.int (4 : Int32)), (.ref o7)])) _
  refine XS.iload X0.here hx rfl (hb hby at_213) rfl ?_
  show Steps p.tables e below (T0.setTop (mkF m 215 #[s0, .val (.long j1), .second, s3, .val (.int i4), .val (.int i5), .val (.int i6), .val (.ref o7)] [(.int i4), (.int i5), (.long j1), (.int i6), (.int (4 : Int32)), (.ref o7)])) _
  refine st5 _ ?_
  show Steps p.tables e below (T5.setTop (mkF m 218 #[s0, .val (.long j1), .second, s3, .val (.int i4), .val (.int i5), .val (.int i6), .val (.ref o7)] [(.int (1 : Int32))])) _
  refine XS.ifNo X5.here hx rfl (hb hby at_218) rfl ((if0 _ _).trans (feq (by decide : ¬ ((1 : Int32) = (0 : Int32)))).1) ?_
  exact kt

set_option maxRecDepth 65536 in
set_option maxHeartbeats 40000000 in
theorem tn0_221_237 {p : Program} {l : Launch} {e : Env} {s : State} {m : MethodId} {args : Array Value} {below : List Frame} {meth : Method} {c : Code} {T0 : State} {locs : List Loc} {Z : State} {a0 : Array Value} {h0 : Heap} (s0 : Slot) (j1 : Int64) (s3 : Slot) (i4 : Int32) (i5 : Int32) (i6 : Int32) (o7 : Addr) (f : Nat → Int32) (n0 : Nat)
    (X0 : Stand p l e room_1 s m args below meth c T0 locs 1 12) (hx : p.tables.exec = Jvm.exec) (hZ : Z.Warmed39 s.vm) (hw : ∀ d ∈ tables_1, d.before a0 Z = true) (hby : c.code = code) (hml : c.maxLocals = 8) (hown : s.vm.findClass "com/example/brindlemere/brindlemere/pages/BigEndianPutPinLaw" = some m.cls) (e0 : T0.heap = h0) (N0 : Fr n0 locs) (Z0 : n0 ≤ h0.size) (V : own_ar Z h0 o7 f) (hv : f 5 = own_e i4 i6 i5 j1 (5 : Int32)) :
    ∃ (T' : State) (locs' : List Loc), Stand p l e room_1 s m args below meth c T' locs' 1 12 ∧ T'.heap = h0 ∧ Fr n0 locs' ∧
      ∀ target, Steps p.tables e below (T'.setTop (mkF m 237 #[s0, .val (.long j1), .second, s3, .val (.int i4), .val (.int i5), .val (.int i6), .val (.ref o7)] [])) target → Steps p.tables e below (T0.setTop (mkF m 221 #[s0, .val (.long j1), .second, s3, .val (.int i4), .val (.int i5), .val (.int i6), .val (.ref o7)] [])) target := by
  obtain ⟨cl, A, S, H⟩ := V
  obtain ⟨_, _, ⟨T5, L5, k5, n5⟩, -, X5, ⟨Lc5, hQ5, l5, y5, z5⟩, st5⟩ := Jvm.LawKit.callS X0 hx (y := (⟨"com/example/brindlemere/brindlemere/pages/BigEndianPutPinLaw", "ok", "([BIIJII)Z"⟩ : MethodName)) hown (mvT hZ (hw _ (List.mem_of_getElem? (i := 6) rfl))) (mvT hZ (hw _ (List.mem_of_getElem? (i := 7) rfl))) (mvT hZ (hw _ (List.mem_of_getElem? (i := 8) rfl))) (mvT hZ (hw _ (List.mem_of_getElem? (i := 9) rfl))) (by decide) (backOf (W := 0) (rm2 l Z a0 hw [] o7 (5 : Int32) i6 j1 i5 i4 (f 5) cl h0 n0 Z0 A (own_inb S (by decide) (by decide)) (H 5 (by decide)) hv) hZ (hw _ (List.mem_of_getElem? (i := 9) rfl)) (hw _ (List.mem_of_getElem? (i := 8) rfl)) (by decide) (by decide)) (g := (mkF m 231 #[s0, .val (.long j1), .second, s3, .val (.int i4), .val (.int i5), .val (.int i6), .val (.ref o7)] [(.int i4), (.int i5), (.long j1), (.int i6), (.int (5 : Int32)), (.ref o7)])) rfl (by rw [hml]; rfl) (argsL := [(.ref o7), (.int (5 : Int32)), (.int i6), (.long j1), (.int i5), (.int i4)]) (rest := []) (lenOf pd_0_1 rfl) rfl (by show 2 * 0 + _ ≤ _; exact Nat.le_of_eq rfl) (hb hby at_231) (fun _ _ => ⟨rfl, e0, (by decide : 1 + 0 ≤ _), (by decide : 12 + 0 ≤ _)⟩)
  dsimp only [Pt.U, Pt.locs, Pt.cells, Pt.slots] at X5 l5 y5 z5 st5 hQ5
  subst l5 y5 z5
  obtain ⟨rfl, N5q, H5⟩ := hQ5
  have N5 := Fr.app N0 N5q
  refine ⟨T5, _, X5, H5, N5, fun target kt => ?_⟩
  show Steps p.tables e below (T0.setTop (mkF m 221 #[s0, .val (.long j1), .second, s3, .val (.int i4), .val (.int i5), .val (.int i6), .val (.ref o7)] [])) _
  refine XS.aload X0.here hx rfl (hb hby at_221) rfl rfl ?_
  show Steps p.tables e below (T0.setTop (mkF m 223 #[s0, .val (.long j1), .second, s3, .val (.int i4), .val (.int i5), .val (.int i6), .val (.ref o7)] [(.ref o7)])) _
  refine XS.iconst X0.here hx rfl (hb hby at_223) ?_
  show Steps p.tables e below (T0.setTop (mkF m 224 #[s0, .val (.long j1), .second, s3, .val (.int i4), .val (.int i5), .val (.int i6), .val (.ref o7)] [(.int (5 : Int32)), (.ref o7)])) _
  refine XS.iload X0.here hx rfl (hb hby at_224) rfl ?_
  show Steps p.tables e below (T0.setTop (mkF m 226 #[s0, .val (.long j1), .second, s3, .val (.int i4), .val (.int i5), .val (.int i6), .val (.ref o7)] [(.int i6), (.int (5 : Int32)), (.ref o7)])) _
  refine XS.lloadN X0.here hx rfl (hb hby at_226) rfl ?_
  show Steps p.tables e below (T0.setTop (mkF m 227 #[s0, .val (.long j1), .second, s3, .val (.int i4), .val (.int i5), .val (.int i6), .val (.ref o7)] [(.long j1), (.int i6), (.int (5 : Int32)), (.ref o7)])) _
  refine XS.iload X0.here hx rfl (hb hby at_227) rfl ?_
  show Steps p.tables e below (T0.setTop (mkF m 229 #[s0, .val (.long j1), .second, s3, .val (.int i4), .val (.int i5), .val (.int i6), .val (.ref o7)] [(.int i5), (.long j1), (.int i6), (.int (5 : Int32)), (.ref o7)])) _
  refine XS.iload X0.here hx rfl (hb hby at_229) rfl ?_
  show Steps p.tables e below (T0.setTop (mkF m 231 #[s0, .val (.long j1), .second, s3, .val (.int i4), .val (.int i5), .val (.int i6), .val (.ref o7)] [(.int i4), (.int i5), (.long j1), (.int i6), (.int (5 : Int32)), (.ref o7)])) _
  refine st5 _ ?_
  show Steps p.tables e below (T5.setTop (mkF m 234 #[s0, .val (.long j1), .second, s3, .val (.int i4), .val (.int i5), .val (.int i6), .val (.ref o7)] [(.int (1 : Int32))])) _
  refine XS.ifNo X5.here hx rfl (hb hby at_234) rfl ((if0 _ _).trans (feq (by decide : ¬ ((1 : Int32) = (0 : Int32)))).1) ?_
  exact kt

set_option maxRecDepth 65536 in
set_option maxHeartbeats 40000000 in
theorem tn0_237_254 {p : Program} {l : Launch} {e : Env} {s : State} {m : MethodId} {args : Array Value} {below : List Frame} {meth : Method} {c : Code} {T0 : State} {locs : List Loc} {Z : State} {a0 : Array Value} {h0 : Heap} (s0 : Slot) (j1 : Int64) (s3 : Slot) (i4 : Int32) (i5 : Int32) (i6 : Int32) (o7 : Addr) (f : Nat → Int32) (n0 : Nat)
    (X0 : Stand p l e room_1 s m args below meth c T0 locs 1 12) (hx : p.tables.exec = Jvm.exec) (hZ : Z.Warmed39 s.vm) (hw : ∀ d ∈ tables_1, d.before a0 Z = true) (hby : c.code = code) (hml : c.maxLocals = 8) (hown : s.vm.findClass "com/example/brindlemere/brindlemere/pages/BigEndianPutPinLaw" = some m.cls) (e0 : T0.heap = h0) (N0 : Fr n0 locs) (Z0 : n0 ≤ h0.size) (V : own_ar Z h0 o7 f) (hv : f 6 = own_e i4 i6 i5 j1 (6 : Int32)) :
    ∃ (T' : State) (locs' : List Loc), Stand p l e room_1 s m args below meth c T' locs' 1 12 ∧ T'.heap = h0 ∧ Fr n0 locs' ∧
      ∀ target, Steps p.tables e below (T'.setTop (mkF m 254 #[s0, .val (.long j1), .second, s3, .val (.int i4), .val (.int i5), .val (.int i6), .val (.ref o7)] [])) target → Steps p.tables e below (T0.setTop (mkF m 237 #[s0, .val (.long j1), .second, s3, .val (.int i4), .val (.int i5), .val (.int i6), .val (.ref o7)] [])) target := by
  obtain ⟨cl, A, S, H⟩ := V
  obtain ⟨_, _, ⟨T5, L5, k5, n5⟩, -, X5, ⟨Lc5, hQ5, l5, y5, z5⟩, st5⟩ := Jvm.LawKit.callS X0 hx (y := (⟨"com/example/brindlemere/brindlemere/pages/BigEndianPutPinLaw", "ok", "([BIIJII)Z"⟩ : MethodName)) hown (mvT hZ (hw _ (List.mem_of_getElem? (i := 6) rfl))) (mvT hZ (hw _ (List.mem_of_getElem? (i := 7) rfl))) (mvT hZ (hw _ (List.mem_of_getElem? (i := 8) rfl))) (mvT hZ (hw _ (List.mem_of_getElem? (i := 9) rfl))) (by decide) (backOf (W := 0) (rm2 l Z a0 hw [] o7 (6 : Int32) i6 j1 i5 i4 (f 6) cl h0 n0 Z0 A (own_inb S (by decide) (by decide)) (H 6 (by decide)) hv) hZ (hw _ (List.mem_of_getElem? (i := 9) rfl)) (hw _ (List.mem_of_getElem? (i := 8) rfl)) (by decide) (by decide)) (g := (mkF m 248 #[s0, .val (.long j1), .second, s3, .val (.int i4), .val (.int i5), .val (.int i6), .val (.ref o7)] [(.int i4), (.int i5), (.long j1), (.int i6), (.int (6 : Int32)), (.ref o7)])) rfl (by rw [hml]; rfl) (argsL := [(.ref o7), (.int (6 : Int32)), (.int i6), (.long j1), (.int i5), (.int i4)]) (rest := []) (lenOf pd_0_1 rfl) rfl (by show 2 * 0 + _ ≤ _; exact Nat.le_of_eq rfl) (hb hby at_248) (fun _ _ => ⟨rfl, e0, (by decide : 1 + 0 ≤ _), (by decide : 12 + 0 ≤ _)⟩)
  dsimp only [Pt.U, Pt.locs, Pt.cells, Pt.slots] at X5 l5 y5 z5 st5 hQ5
  subst l5 y5 z5
  obtain ⟨rfl, N5q, H5⟩ := hQ5
  have N5 := Fr.app N0 N5q
  refine ⟨T5, _, X5, H5, N5, fun target kt => ?_⟩
  show Steps p.tables e below (T0.setTop (mkF m 237 #[s0, .val (.long j1), .second, s3, .val (.int i4), .val (.int i5), .val (.int i6), .val (.ref o7)] [])) _
  refine XS.aload X0.here hx rfl (hb hby at_237) rfl rfl ?_
  show Steps p.tables e below (T0.setTop (mkF m 239 #[s0, .val (.long j1), .second, s3, .val (.int i4), .val (.int i5), .val (.int i6), .val (.ref o7)] [(.ref o7)])) _
  refine XS.bipush X0.here hx rfl (hb hby at_239) ?_
  show Steps p.tables e below (T0.setTop (mkF m 241 #[s0, .val (.long j1), .second, s3, .val (.int i4), .val (.int i5), .val (.int i6), .val (.ref o7)] [(.int (6 : Int32)), (.ref o7)])) _
  refine XS.iload X0.here hx rfl (hb hby at_241) rfl ?_
  show Steps p.tables e below (T0.setTop (mkF m 243 #[s0, .val (.long j1), .second, s3, .val (.int i4), .val (.int i5), .val (.int i6), .val (.ref o7)] [(.int i6), (.int (6 : Int32)), (.ref o7)])) _
  refine XS.lloadN X0.here hx rfl (hb hby at_243) rfl ?_
  show Steps p.tables e below (T0.setTop (mkF m 244 #[s0, .val (.long j1), .second, s3, .val (.int i4), .val (.int i5), .val (.int i6), .val (.ref o7)] [(.long j1), (.int i6), (.int (6 : Int32)), (.ref o7)])) _
  refine XS.iload X0.here hx rfl (hb hby at_244) rfl ?_
  show Steps p.tables e below (T0.setTop (mkF m 246 #[s0, .val (.long j1), .second, s3, .val (.int i4), .val (.int i5), .val (.int i6), .val (.ref o7)] [(.int i5), (.long j1), (.int i6), (.int (6 : Int32)), (.ref o7)])) _
  refine XS.iload X0.here hx rfl (hb hby at_246) rfl ?_
  show Steps p.tables e below (T0.setTop (mkF m 248 #[s0, .val (.long j1), .second, s3, .val (.int i4), .val (.int i5), .val (.int i6), .val (.ref o7)] [(.int i4), (.int i5), (.long j1), (.int i6), (.int (6 : Int32)), (.ref o7)])) _
  refine st5 _ ?_
  show Steps p.tables e below (T5.setTop (mkF m 251 #[s0, .val (.long j1), .second, s3, .val (.int i4), .val (.int i5), .val (.int i6), .val (.ref o7)] [(.int (1 : Int32))])) _
  refine XS.ifNo X5.here hx rfl (hb hby at_251) rfl ((if0 _ _).trans (feq (by decide : ¬ ((1 : Int32) = (0 : Int32)))).1) ?_
  exact kt

set_option maxRecDepth 65536 in
set_option maxHeartbeats 40000000 in
theorem tn0_254_271 {p : Program} {l : Launch} {e : Env} {s : State} {m : MethodId} {args : Array Value} {below : List Frame} {meth : Method} {c : Code} {T0 : State} {locs : List Loc} {Z : State} {a0 : Array Value} {h0 : Heap} (s0 : Slot) (j1 : Int64) (s3 : Slot) (i4 : Int32) (i5 : Int32) (i6 : Int32) (o7 : Addr) (f : Nat → Int32) (n0 : Nat)
    (X0 : Stand p l e room_1 s m args below meth c T0 locs 1 12) (hx : p.tables.exec = Jvm.exec) (hZ : Z.Warmed39 s.vm) (hw : ∀ d ∈ tables_1, d.before a0 Z = true) (hby : c.code = code) (hml : c.maxLocals = 8) (hown : s.vm.findClass "com/example/brindlemere/brindlemere/pages/BigEndianPutPinLaw" = some m.cls) (e0 : T0.heap = h0) (N0 : Fr n0 locs) (Z0 : n0 ≤ h0.size) (V : own_ar Z h0 o7 f) (hv : f 7 = own_e i4 i6 i5 j1 (7 : Int32)) :
    ∃ (T' : State) (locs' : List Loc), Stand p l e room_1 s m args below meth c T' locs' 1 12 ∧ T'.heap = h0 ∧ Fr n0 locs' ∧
      ∀ target, Steps p.tables e below (T'.setTop (mkF m 271 #[s0, .val (.long j1), .second, s3, .val (.int i4), .val (.int i5), .val (.int i6), .val (.ref o7)] [])) target → Steps p.tables e below (T0.setTop (mkF m 254 #[s0, .val (.long j1), .second, s3, .val (.int i4), .val (.int i5), .val (.int i6), .val (.ref o7)] [])) target := by
  obtain ⟨cl, A, S, H⟩ := V
  obtain ⟨_, _, ⟨T5, L5, k5, n5⟩, -, X5, ⟨Lc5, hQ5, l5, y5, z5⟩, st5⟩ := Jvm.LawKit.callS X0 hx (y := (⟨"com/example/brindlemere/brindlemere/pages/BigEndianPutPinLaw", "ok", "([BIIJII)Z"⟩ : MethodName)) hown (mvT hZ (hw _ (List.mem_of_getElem? (i := 6) rfl))) (mvT hZ (hw _ (List.mem_of_getElem? (i := 7) rfl))) (mvT hZ (hw _ (List.mem_of_getElem? (i := 8) rfl))) (mvT hZ (hw _ (List.mem_of_getElem? (i := 9) rfl))) (by decide) (backOf (W := 0) (rm2 l Z a0 hw [] o7 (7 : Int32) i6 j1 i5 i4 (f 7) cl h0 n0 Z0 A (own_inb S (by decide) (by decide)) (H 7 (by decide)) hv) hZ (hw _ (List.mem_of_getElem? (i := 9) rfl)) (hw _ (List.mem_of_getElem? (i := 8) rfl)) (by decide) (by decide)) (g := (mkF m 265 #[s0, .val (.long j1), .second, s3, .val (.int i4), .val (.int i5), .val (.int i6), .val (.ref o7)] [(.int i4), (.int i5), (.long j1), (.int i6), (.int (7 : Int32)), (.ref o7)])) rfl (by rw [hml]; rfl) (argsL := [(.ref o7), (.int (7 : Int32)), (.int i6), (.long j1), (.int i5), (.int i4)]) (rest := []) (lenOf pd_0_1 rfl) rfl (by show 2 * 0 + _ ≤ _; exact Nat.le_of_eq rfl) (hb hby at_265) (fun _ _ => ⟨rfl, e0, (by decide : 1 + 0 ≤ _), (by decide : 12 + 0 ≤ _)⟩)
  dsimp only [Pt.U, Pt.locs, Pt.cells, Pt.slots] at X5 l5 y5 z5 st5 hQ5
  subst l5 y5 z5
  obtain ⟨rfl, N5q, H5⟩ := hQ5
  have N5 := Fr.app N0 N5q
  refine ⟨T5, _, X5, H5, N5, fun target kt => ?_⟩
  show Steps p.tables e below (T0.setTop (mkF m 254 #[s0, .val (.long j1), .second, s3, .val (.int i4), .val (.int i5), .val (.int i6), .val (.ref o7)] [])) _
  refine XS.aload X0.here hx rfl (hb hby at_254) rfl rfl ?_
  show Steps p.tables e below (T0.setTop (mkF m 256 #[s0, .val (.long j1), .second, s3, .val (.int i4), .val (.int i5), .val (.int i6), .val (.ref o7)] [(.ref o7)])) _
  refine XS.bipush X0.here hx rfl (hb hby at_256) ?_
  show Steps p.tables e below (T0.setTop (mkF m 258 #[s0, .val (.long j1), .second, s3, .val (.int i4), .val (.int i5), .val (.int i6), .val (.ref o7)] [(.int (7 : Int32)), (.ref o7)])) _
  refine XS.iload X0.here hx rfl (hb hby at_258) rfl ?_
  show Steps p.tables e below (T0.setTop (mkF m 260 #[s0, .val (.long j1), .second, s3, .val (.int i4), .val (.int i5), .val (.int i6), .val (.ref o7)] [(.int i6), (.int (7 : Int32)), (.ref o7)])) _
  refine XS.lloadN X0.here hx rfl (hb hby at_260) rfl ?_
  show Steps p.tables e below (T0.setTop (mkF m 261 #[s0, .val (.long j1), .second, s3, .val (.int i4), .val (.int i5), .val (.int i6), .val (.ref o7)] [(.long j1), (.int i6), (.int (7 : Int32)), (.ref o7)])) _
  refine XS.iload X0.here hx rfl (hb hby at_261) rfl ?_
  show Steps p.tables e below (T0.setTop (mkF m 263 #[s0, .val (.long j1), .second, s3, .val (.int i4), .val (.int i5), .val (.int i6), .val (.ref o7)] [(.int i5), (.long j1), (.int i6), (.int (7 : Int32)), (.ref o7)])) _
  refine XS.iload X0.here hx rfl (hb hby at_263) rfl ?_
  show Steps p.tables e below (T0.setTop (mkF m 265 #[s0, .val (.long j1), .second, s3, .val (.int i4), .val (.int i5), .val (.int i6), .val (.ref o7)] [(.int i4), (.int i5), (.long j1), (.int i6), (.int (7 : Int32)), (.ref o7)])) _
  refine st5 _ ?_
  show Steps p.tables e below (T5.setTop (mkF m 268 #[s0, .val (.long j1), .second, s3, .val (.int i4), .val (.int i5), .val (.int i6), .val (.ref o7)] [(.int (1 : Int32))])) _
  refine XS.ifNo X5.here hx rfl (hb hby at_268) rfl ((if0 _ _).trans (feq (by decide : ¬ ((1 : Int32) = (0 : Int32)))).1) ?_
  exact kt

set_option maxRecDepth 65536 in
set_option maxHeartbeats 40000000 in
theorem tn0_271_288 {p : Program} {l : Launch} {e : Env} {s : State} {m : MethodId} {args : Array Value} {below : List Frame} {meth : Method} {c : Code} {T0 : State} {locs : List Loc} {Z : State} {a0 : Array Value} {h0 : Heap} (s0 : Slot) (j1 : Int64) (s3 : Slot) (i4 : Int32) (i5 : Int32) (i6 : Int32) (o7 : Addr) (f : Nat → Int32) (n0 : Nat)
    (X0 : Stand p l e room_1 s m args below meth c T0 locs 1 12) (hx : p.tables.exec = Jvm.exec) (hZ : Z.Warmed39 s.vm) (hw : ∀ d ∈ tables_1, d.before a0 Z = true) (hby : c.code = code) (hml : c.maxLocals = 8) (hown : s.vm.findClass "com/example/brindlemere/brindlemere/pages/BigEndianPutPinLaw" = some m.cls) (e0 : T0.heap = h0) (N0 : Fr n0 locs) (Z0 : n0 ≤ h0.size) (V : own_ar Z h0 o7 f) (hv : f 8 = own_e i4 i6 i5 j1 (8 : Int32)) :
    ∃ (T' : State) (locs' : List Loc), Stand p l e room_1 s m args below meth c T' locs' 1 12 ∧ T'.heap = h0 ∧ Fr n0 locs' ∧
      ∀ target, Steps p.tables e below (T'.setTop (mkF m 288 #[s0, .val (.long j1), .second, s3, .val (.int i4), .val (.int i5), .val (.int i6), .val (.ref o7)] [])) target → Steps p.tables e below (T0.setTop (mkF m 271 #[s0, .val (.long j1), .second, s3, .val (.int i4), .val (.int i5), .val (.int i6), .val (.ref o7)] [])) target := by
  obtain ⟨cl, A, S, H⟩ := V
  obtain ⟨_, _, ⟨T5, L5, k5, n5⟩, -, X5, ⟨Lc5, hQ5, l5, y5, z5⟩, st5⟩ := Jvm.LawKit.callS X0 hx (y := (⟨"com/example/brindlemere/brindlemere/pages/BigEndianPutPinLaw", "ok", "([BIIJII)Z"⟩ : MethodName)) hown (mvT hZ (hw _ (List.mem_of_getElem? (i := 6) rfl))) (mvT hZ (hw _ (List.mem_of_getElem? (i := 7) rfl))) (mvT hZ (hw _ (List.mem_of_getElem? (i := 8) rfl))) (mvT hZ (hw _ (List.mem_of_getElem? (i := 9) rfl))) (by decide) (backOf (W := 0) (rm2 l Z a0 hw [] o7 (8 : Int32) i6 j1 i5 i4 (f 8) cl h0 n0 Z0 A (own_inb S (by decide) (by decide)) (H 8 (by decide)) hv) hZ (hw _ (List.mem_of_getElem? (i := 9) rfl)) (hw _ (List.mem_of_getElem? (i := 8) rfl)) (by decide) (by decide)) (g := (mkF m 282 #[s0, .val (.long j1), .second, s3, .val (.int i4), .val (.int i5), .val (.int i6), .val (.ref o7)] [(.int i4), (.int i5), (.long j1), (.int i6), (.int (8 : Int32)), (.ref o7)])) rfl (by rw [hml]; rfl) (argsL := [(.ref o7), (.int (8 : Int32)), (.int i6), (.long j1), (.int i5), (.int i4)]) (rest := []) (lenOf pd_0_1 rfl) rfl (by show 2 * 0 + _ ≤ _; exact Nat.le_of_eq rfl) (hb hby at_282) (fun _ _ => ⟨rfl, e0, (by decide : 1 + 0 ≤ _), (by decide : 12 + 0 ≤ _)⟩)
  dsimp only [Pt.U, Pt.locs, Pt.cells, Pt.slots] at X5 l5 y5 z5 st5 hQ5
  subst l5 y5 z5
  obtain ⟨rfl, N5q, H5⟩ := hQ5
  have N5 := Fr.app N0 N5q
  refine ⟨T5, _, X5, H5, N5, fun target kt => ?_⟩
  show Steps p.tables e below (T0.setTop (mkF m 271 #[s0, .val (.long j1), .second, s3, .val (.int i4), .val (.int i5), .val (.int i6), .val (.ref o7)] [])) _
  refine XS.aload X0.here hx rfl (hb hby at_271) rfl rfl ?_
  show Steps p.tables e below (T0.setTop (mkF m 273 #[s0, .val (.long j1), .second, s3, .val (.int i4), .val (.int i5), .val (.int i6), .val (.ref o7)] [(.ref o7)])) _
  refine XS.bipush X0.here hx rfl (hb hby at_273) ?_
  show Steps p.tables e below (T0.setTop (mkF m 275 #[s0, .val (.long j1), .second, s3, .val (.int i4), .val (.int i5), .val (.int i6), .val (.ref o7)] [(.int (8 : Int32)), (.ref o7)])) _
  refine XS.iload X0.here hx rfl (hb hby at_275) rfl ?_
  show Steps p.tables e below (T0.setTop (mkF m 277 #[s0, .val (.long j1), .second, s3, .val (.int i4), .val (.int i5), .val (.int i6), .val (.ref o7)] [(.int i6), (.int (8 : Int32)), (.ref o7)])) _
  refine XS.lloadN X0.here hx rfl (hb hby at_277) rfl ?_
  show Steps p.tables e below (T0.setTop (mkF m 278 #[s0, .val (.long j1), .second, s3, .val (.int i4), .val (.int i5), .val (.int i6), .val (.ref o7)] [(.long j1), (.int i6), (.int (8 : Int32)), (.ref o7)])) _
  refine XS.iload X0.here hx rfl (hb hby at_278) rfl ?_
  show Steps p.tables e below (T0.setTop (mkF m 280 #[s0, .val (.long j1), .second, s3, .val (.int i4), .val (.int i5), .val (.int i6), .val (.ref o7)] [(.int i5), (.long j1), (.int i6), (.int (8 : Int32)), (.ref o7)])) _
  refine XS.iload X0.here hx rfl (hb hby at_280) rfl ?_
  show Steps p.tables e below (T0.setTop (mkF m 282 #[s0, .val (.long j1), .second, s3, .val (.int i4), .val (.int i5), .val (.int i6), .val (.ref o7)] [(.int i4), (.int i5), (.long j1), (.int i6), (.int (8 : Int32)), (.ref o7)])) _
  refine st5 _ ?_
  show Steps p.tables e below (T5.setTop (mkF m 285 #[s0, .val (.long j1), .second, s3, .val (.int i4), .val (.int i5), .val (.int i6), .val (.ref o7)] [(.int (1 : Int32))])) _
  refine XS.ifNo X5.here hx rfl (hb hby at_285) rfl ((if0 _ _).trans (feq (by decide : ¬ ((1 : Int32) = (0 : Int32)))).1) ?_
  exact kt

set_option maxRecDepth 65536 in
set_option maxHeartbeats 40000000 in
theorem tn0_288_305 {p : Program} {l : Launch} {e : Env} {s : State} {m : MethodId} {args : Array Value} {below : List Frame} {meth : Method} {c : Code} {T0 : State} {locs : List Loc} {Z : State} {a0 : Array Value} {h0 : Heap} (s0 : Slot) (j1 : Int64) (s3 : Slot) (i4 : Int32) (i5 : Int32) (i6 : Int32) (o7 : Addr) (f : Nat → Int32) (n0 : Nat)
    (X0 : Stand p l e room_1 s m args below meth c T0 locs 1 12) (hx : p.tables.exec = Jvm.exec) (hZ : Z.Warmed39 s.vm) (hw : ∀ d ∈ tables_1, d.before a0 Z = true) (hby : c.code = code) (hml : c.maxLocals = 8) (hown : s.vm.findClass "com/example/brindlemere/brindlemere/pages/BigEndianPutPinLaw" = some m.cls) (e0 : T0.heap = h0) (N0 : Fr n0 locs) (Z0 : n0 ≤ h0.size) (V : own_ar Z h0 o7 f) (hv : f 9 = own_e i4 i6 i5 j1 (9 : Int32)) :
    ∃ (T' : State) (locs' : List Loc), Stand p l e room_1 s m args below meth c T' locs' 1 12 ∧ T'.heap = h0 ∧ Fr n0 locs' ∧
      ∀ target, Steps p.tables e below (T'.setTop (mkF m 305 #[s0, .val (.long j1), .second, s3, .val (.int i4), .val (.int i5), .val (.int i6), .val (.ref o7)] [])) target → Steps p.tables e below (T0.setTop (mkF m 288 #[s0, .val (.long j1), .second, s3, .val (.int i4), .val (.int i5), .val (.int i6), .val (.ref o7)] [])) target := by
  obtain ⟨cl, A, S, H⟩ := V
  obtain ⟨_, _, ⟨T5, L5, k5, n5⟩, -, X5, ⟨Lc5, hQ5, l5, y5, z5⟩, st5⟩ := Jvm.LawKit.callS X0 hx (y := (⟨"com/example/brindlemere/brindlemere/pages/BigEndianPutPinLaw", "ok", "([BIIJII)Z"⟩ : MethodName)) hown (mvT hZ (hw _ (List.mem_of_getElem? (i := 6) rfl))) (mvT hZ (hw _ (List.mem_of_getElem? (i := 7) rfl))) (mvT hZ (hw _ (List.mem_of_getElem? (i := 8) rfl))) (mvT hZ (hw _ (List.mem_of_getElem? (i := 9) rfl))) (by decide) (backOf (W := 0) (rm2 l Z a0 hw [] o7 (9 : Int32) i6 j1 i5 i4 (f 9) cl h0 n0 Z0 A (own_inb S (by decide) (by decide)) (H 9 (by decide)) hv) hZ (hw _ (List.mem_of_getElem? (i := 9) rfl)) (hw _ (List.mem_of_getElem? (i := 8) rfl)) (by decide) (by decide)) (g := (mkF m 299 #[s0, .val (.long j1), .second, s3, .val (.int i4), .val (.int i5), .val (.int i6), .val (.ref o7)] [(.int i4), (.int i5), (.long j1), (.int i6), (.int (9 : Int32)), (.ref o7)])) rfl (by rw [hml]; rfl) (argsL := [(.ref o7), (.int (9 : Int32)), (.int i6), (.long j1), (.int i5), (.int i4)]) (rest := []) (lenOf pd_0_1 rfl) rfl (by show 2 * 0 + _ ≤ _; exact Nat.le_of_eq rfl) (hb hby at_299) (fun _ _ => ⟨rfl, e0, (by decide : 1 + 0 ≤ _), (by decide : 12 + 0 ≤ _)⟩)
  dsimp only [Pt.U, Pt.locs, Pt.cells, Pt.slots] at X5 l5 y5 z5 st5 hQ5
  subst l5 y5 z5
  obtain ⟨rfl, N5q, H5⟩ := hQ5
  have N5 := Fr.app N0 N5q
  refine ⟨T5, _, X5, H5, N5, fun target kt => ?_⟩
  show Steps p.tables e below (T0.setTop (mkF m 288 #[s0, .val (.long j1), .second, s3, .val (.int i4), .val (.int i5), .val (.int i6), .val (.ref o7)] [])) _
  refine XS.aload X0.here hx rfl (hb hby at_288) rfl rfl ?_
  show Steps p.tables e below (T0.setTop (mkF m 290 #[s0, .val (.long j1), .second, s3, .val (.int i4), .val (.int i5), .val (.int i6), .val (.ref o7)] [(.ref o7)])) _
  refine XS.bipush X0.here hx rfl (hb hby at_290) ?_
  show Steps p.tables e below (T0.setTop (mkF m 292 #[s0, .val (.long j1), .second, s3, .val (.int i4), .val (.int i5), .val (.int i6), .val (.ref o7)] [(.int (9 : Int32)), (.ref o7)])) _
  refine XS.iload X0.here hx rfl (hb hby at_292) rfl ?_
  show Steps p.tables e below (T0.setTop (mkF m 294 #[s0, .val (.long j1), .second, s3, .val (.int i4), .val (.int i5), .val (.int i6), .val (.ref o7)] [(.int i6), (.int (9 : Int32)), (.ref o7)])) _
  refine XS.lloadN X0.here hx rfl (hb hby at_294) rfl ?_
  show Steps p.tables e below (T0.setTop (mkF m 295 #[s0, .val (.long j1), .second, s3, .val (.int i4), .val (.int i5), .val (.int i6), .val (.ref o7)] [(.long j1), (.int i6), (.int (9 : Int32)), (.ref o7)])) _
  refine XS.iload X0.here hx rfl (hb hby at_295) rfl ?_
  show Steps p.tables e below (T0.setTop (mkF m 297 #[s0, .val (.long j1), .second, s3, .val (.int i4), .val (.int i5), .val (.int i6), .val (.ref o7)] [(.int i5), (.long j1), (.int i6), (.int (9 : Int32)), (.ref o7)])) _
  refine XS.iload X0.here hx rfl (hb hby at_297) rfl ?_
  show Steps p.tables e below (T0.setTop (mkF m 299 #[s0, .val (.long j1), .second, s3, .val (.int i4), .val (.int i5), .val (.int i6), .val (.ref o7)] [(.int i4), (.int i5), (.long j1), (.int i6), (.int (9 : Int32)), (.ref o7)])) _
  refine st5 _ ?_
  show Steps p.tables e below (T5.setTop (mkF m 302 #[s0, .val (.long j1), .second, s3, .val (.int i4), .val (.int i5), .val (.int i6), .val (.ref o7)] [(.int (1 : Int32))])) _
  refine XS.ifNo X5.here hx rfl (hb hby at_302) rfl ((if0 _ _).trans (feq (by decide : ¬ ((1 : Int32) = (0 : Int32)))).1) ?_
  exact kt

set_option maxRecDepth 65536 in
set_option maxHeartbeats 40000000 in
theorem tn0_305_322 {p : Program} {l : Launch} {e : Env} {s : State} {m : MethodId} {args : Array Value} {below : List Frame} {meth : Method} {c : Code} {T0 : State} {locs : List Loc} {Z : State} {a0 : Array Value} {h0 : Heap} (s0 : Slot) (j1 : Int64) (s3 : Slot) (i4 : Int32) (i5 : Int32) (i6 : Int32) (o7 : Addr) (f : Nat → Int32) (n0 : Nat)
    (X0 : Stand p l e room_1 s m args below meth c T0 locs 1 12) (hx : p.tables.exec = Jvm.exec) (hZ : Z.Warmed39 s.vm) (hw : ∀ d ∈ tables_1, d.before a0 Z = true) (hby : c.code = code) (hml : c.maxLocals = 8) (hown : s.vm.findClass "com/example/brindlemere/brindlemere/pages/BigEndianPutPinLaw" = some m.cls) (e0 : T0.heap = h0) (N0 : Fr n0 locs) (Z0 : n0 ≤ h0.size) (V : own_ar Z h0 o7 f) (hv : f 10 = own_e i4 i6 i5 j1 (10 : Int32)) :
    ∃ (T' : State) (locs' : List Loc), Stand p l e room_1 s m args below meth c T' locs' 1 12 ∧ T'.heap = h0 ∧ Fr n0 locs' ∧
      ∀ target, Steps p.tables e below (T'.setTop (mkF m 322 #[s0, .val (.long j1), .second, s3, .val (.int i4), .val (.int i5), .val (.int i6), .val (.ref o7)] [])) target → Steps p.tables e below (T0.setTop (mkF m 305 #[s0, .val (.long j1), .second, s3, .val (.int i4), .val (.int i5), .val (.int i6), .val (.ref o7)] [])) target := by
  obtain ⟨cl, A, S, H⟩ := V
  obtain ⟨_, _, ⟨T5, L5, k5, n5⟩, -, X5, ⟨Lc5, hQ5, l5, y5, z5⟩, st5⟩ := Jvm.LawKit.callS X0 hx (y := (⟨"com/example/brindlemere/brindlemere/pages/BigEndianPutPinLaw", "ok", "([BIIJII)Z"⟩ : MethodName)) hown (mvT hZ (hw _ (List.mem_of_getElem? (i := 6) rfl))) (mvT hZ (hw _ (List.mem_of_getElem? (i := 7) rfl))) (mvT hZ (hw _ (List.mem_of_getElem? (i := 8) rfl))) (mvT hZ (hw _ (List.mem_of_getElem? (i := 9) rfl))) (by decide) (backOf (W := 0) (rm2 l Z a0 hw [] o7 (10 : Int32) i6 j1 i5 i4 (f 10) cl h0 n0 Z0 A (own_inb S (by decide) (by decide)) (H 10 (by decide)) hv) hZ (hw _ (List.mem_of_getElem? (i := 9) rfl)) (hw _ (List.mem_of_getElem? (i := 8) rfl)) (by decide) (by decide)) (g := (mkF m 316 #[s0, .val (.long j1), .second, s3, .val (.int i4), .val (.int i5), .val (.int i6), .val (.ref o7)] [(.int i4), (.int i5), (.long j1), (.int i6), (.int (10 : Int32)), (.ref o7)])) rfl (by rw [hml]; rfl) (argsL := [(.ref o7), (.int (10 : Int32)), (.int i6), (.long j1), (.int i5), (.int i4)]) (rest := []) (lenOf pd_0_1 rfl) rfl (by show 2 * 0 + _ ≤ _; exact Nat.le_of_eq rfl) (hb hby at_316) (fun _ _ => ⟨rfl, e0, (by decide : 1 + 0 ≤ _), (by decide : 12 + 0 ≤ _)⟩)
  dsimp only [Pt.U, Pt.locs, Pt.cells, Pt.slots] at X5 l5 y5 z5 st5 hQ5
  subst l5 y5 z5
  obtain ⟨rfl, N5q, H5⟩ := hQ5
  have N5 := Fr.app N0 N5q
  refine ⟨T5, _, X5, H5, N5, fun target kt => ?_⟩
  show Steps p.tables e below (T0.setTop (mkF m 305 #[s0, .val (.long j1), .second, s3, .val (.int i4), .val (.int i5), .val (.int i6), .val (.ref o7)] [])) _
  refine XS.aload X0.here hx rfl (hb hby at_305) rfl rfl ?_
  show Steps p.tables e below (T0.setTop (mkF m 307 #[s0, .val (.long j1), .second, s3, .val (.int i4), .val (.int i5), .val (.int i6), .val (.ref o7)] [(.ref o7)])) _
  refine XS.bipush X0.here hx rfl (hb hby at_307) ?_
  show Steps p.tables e below (T0.setTop (mkF m 309 #[s0, .val (.long j1), .second, s3, .val (.int i4), .val (.int i5), .val (.int i6), .val (.ref o7)] [(.int (10 : Int32)), (.ref o7)])) _
  refine XS.iload X0.here hx rfl (hb hby at_309) rfl ?_
  show Steps p.tables e below (T0.setTop (mkF m 311 #[s0, .val (.long j1), .second, s3, .val (.int i4), .val (.int i5), .val (.int i6), .val (.ref o7)] [(.int i6), (.int (10 : Int32)), (.ref o7)])) _
  refine XS.lloadN X0.here hx rfl (hb hby at_311) rfl ?_
  show Steps p.tables e below (T0.setTop (mkF m 312 #[s0, .val (.long j1), .second, s3, .val (.int i4), .val (.int i5), .val (.int i6), .val (.ref o7)] [(.long j1), (.int i6), (.int (10 : Int32)), (.ref o7)])) _
  refine XS.iload X0.here hx rfl (hb hby at_312) rfl ?_
  show Steps p.tables e below (T0.setTop (mkF m 314 #[s0, .val (.long j1), .second, s3, .val (.int i4), .val (.int i5), .val (.int i6), .val (.ref o7)] [(.int i5), (.long j1), (.int i6), (.int (10 : Int32)), (.ref o7)])) _
  refine XS.iload X0.here hx rfl (hb hby at_314) rfl ?_
  show Steps p.tables e below (T0.setTop (mkF m 316 #[s0, .val (.long j1), .second, s3, .val (.int i4), .val (.int i5), .val (.int i6), .val (.ref o7)] [(.int i4), (.int i5), (.long j1), (.int i6), (.int (10 : Int32)), (.ref o7)])) _
  refine st5 _ ?_
  show Steps p.tables e below (T5.setTop (mkF m 319 #[s0, .val (.long j1), .second, s3, .val (.int i4), .val (.int i5), .val (.int i6), .val (.ref o7)] [(.int (1 : Int32))])) _
  refine XS.ifNo X5.here hx rfl (hb hby at_319) rfl ((if0 _ _).trans (feq (by decide : ¬ ((1 : Int32) = (0 : Int32)))).1) ?_
  exact kt

set_option maxRecDepth 65536 in
set_option maxHeartbeats 40000000 in
theorem tn0_322_339 {p : Program} {l : Launch} {e : Env} {s : State} {m : MethodId} {args : Array Value} {below : List Frame} {meth : Method} {c : Code} {T0 : State} {locs : List Loc} {Z : State} {a0 : Array Value} {h0 : Heap} (s0 : Slot) (j1 : Int64) (s3 : Slot) (i4 : Int32) (i5 : Int32) (i6 : Int32) (o7 : Addr) (f : Nat → Int32) (n0 : Nat)
    (X0 : Stand p l e room_1 s m args below meth c T0 locs 1 12) (hx : p.tables.exec = Jvm.exec) (hZ : Z.Warmed39 s.vm) (hw : ∀ d ∈ tables_1, d.before a0 Z = true) (hby : c.code = code) (hml : c.maxLocals = 8) (hown : s.vm.findClass "com/example/brindlemere/brindlemere/pages/BigEndianPutPinLaw" = some m.cls) (e0 : T0.heap = h0) (N0 : Fr n0 locs) (Z0 : n0 ≤ h0.size) (V : own_ar Z h0 o7 f) (hv : f 11 = own_e i4 i6 i5 j1 (11 : Int32)) :
    ∃ (T' : State) (locs' : List Loc), Stand p l e room_1 s m args below meth c T' locs' 1 12 ∧ T'.heap = h0 ∧ Fr n0 locs' ∧
      ∀ target, Steps p.tables e below (T'.setTop (mkF m 339 #[s0, .val (.long j1), .second, s3, .val (.int i4), .val (.int i5), .val (.int i6), .val (.ref o7)] [])) target → Steps p.tables e below (T0.setTop (mkF m 322 #[s0, .val (.long j1), .second, s3, .val (.int i4), .val (.int i5), .val (.int i6), .val (.ref o7)] [])) target := by
  obtain ⟨cl, A, S, H⟩ := V
  obtain ⟨_, _, ⟨T5, L5, k5, n5⟩, -, X5, ⟨Lc5, hQ5, l5, y5, z5⟩, st5⟩ := Jvm.LawKit.callS X0 hx (y := (⟨"com/example/brindlemere/brindlemere/pages/BigEndianPutPinLaw", "ok", "([BIIJII)Z"⟩ : MethodName)) hown (mvT hZ (hw _ (List.mem_of_getElem? (i := 6) rfl))) (mvT hZ (hw _ (List.mem_of_getElem? (i := 7) rfl))) (mvT hZ (hw _ (List.mem_of_getElem? (i := 8) rfl))) (mvT hZ (hw _ (List.mem_of_getElem? (i := 9) rfl))) (by decide) (backOf (W := 0) (rm2 l Z a0 hw [] o7 (11 : Int32) i6 j1 i5 i4 (f 11) cl h0 n0 Z0 A (own_inb S (by decide) (by decide)) (H 11 (by decide)) hv) hZ (hw _ (List.mem_of_getElem? (i := 9) rfl)) (hw _ (List.mem_of_getElem? (i := 8) rfl)) (by decide) (by decide)) (g := (mkF m 333 #[s0, .val (.long j1), .second, s3, .val (.int i4), .val (.int i5), .val (.int i6), .val (.ref o7)] [(.int i4), (.int i5), (.long j1), (.int i6), (.int (11 : Int32)), (.ref o7)])) rfl (by rw [hml]; rfl) (argsL := [(.ref o7), (.int (11 : Int32)), (.int i6), (.long j1), (.int i5), (.int i4)]) (rest := []) (lenOf pd_0_1 rfl) rfl (by show 2 * 0 + _ ≤ _; exact Nat.le_of_eq rfl) (hb hby at_333) (fun _ _ => ⟨rfl, e0, (by decide : 1 + 0 ≤ _), (by decide : 12 + 0 ≤ _)⟩)
  dsimp only [Pt.U, Pt.locs, Pt.cells, Pt.slots] at X5 l5 y5 z5 st5 hQ5
  subst l5 y5 z5
  obtain ⟨rfl, N5q, H5⟩ := hQ5
  have N5 := Fr.app N0 N5q
  refine ⟨T5, _, X5, H5, N5, fun target kt => ?_⟩
  show Steps p.tables e below (T0.setTop (mkF m 322 #[s0, .val (.long j1), .second, s3, .val (.int i4), .val (.int i5), .val (.int i6), .val (.ref o7)] [])) _
  refine XS.aload X0.here hx rfl (hb hby at_322) rfl rfl ?_
  show Steps p.tables e below (T0.setTop (mkF m 324 #[s0, .val (.long j1), .second, s3, .val (.int i4), .val (.int i5), .val (.int i6), .val (.ref o7)] [(.ref o7)])) _
  refine XS.bipush X0.here hx rfl (hb hby at_324) ?_
  show Steps p.tables e below (T0.setTop (mkF m 326 #[s0, .val (.long j1), .second, s3, .val (.int i4), .val (.int i5), .val (.int i6), .val (.ref o7)] [(.int (11 : Int32)), (.ref o7)])) _
  refine XS.iload X0.here hx rfl (hb hby at_326) rfl ?_
  show Steps p.tables e below (T0.setTop (mkF m 328 #[s0, .val (.long j1), .second, s3, .val (.int i4), .val (.int i5), .val (.int i6), .val (.ref o7)] [(.int i6), (.int (11 : Int32)), (.ref o7)])) _
  refine XS.lloadN X0.here hx rfl (hb hby at_328) rfl ?_
  show Steps p.tables e below (T0.setTop (mkF m 329 #[s0, .val (.long j1), .second, s3, .val (.int i4), .val (.int i5), .val (.int i6), .val (.ref o7)] [(.long j1), (.int i6), (.int (11 : Int32)), (.ref o7)])) _
  refine XS.iload X0.here hx rfl (hb hby at_329) rfl ?_
  show Steps p.tables e below (T0.setTop (mkF m 331 #[s0, .val (.long j1), .second, s3, .val (.int i4), .val (.int i5), .val (.int i6), .val (.ref o7)] [(.int i5), (.long j1), (.int i6), (.int (11 : Int32)), (.ref o7)])) _
  refine XS.iload X0.here hx rfl (hb hby at_331) rfl ?_
  show Steps p.tables e below (T0.setTop (mkF m 333 #[s0, .val (.long j1), .second, s3, .val (.int i4), .val (.int i5), .val (.int i6), .val (.ref o7)] [(.int i4), (.int i5), (.long j1), (.int i6), (.int (11 : Int32)), (.ref o7)])) _
  refine st5 _ ?_
  show Steps p.tables e below (T5.setTop (mkF m 336 #[s0, .val (.long j1), .second, s3, .val (.int i4), .val (.int i5), .val (.int i6), .val (.ref o7)] [(.int (1 : Int32))])) _
  refine XS.ifNo X5.here hx rfl (hb hby at_336) rfl ((if0 _ _).trans (feq (by decide : ¬ ((1 : Int32) = (0 : Int32)))).1) ?_
  exact kt

def Q0 (Z : State) (p1 : Int32) (q2 : Int64) (p3 : Int32) (p4 : Int32) (h0 : Heap) (n0 : Nat) (v : Option Value) (h : Heap) (L : List Loc) : Prop := v = some (.int (1 : Int32)) ∧ Fr n0 L
set_option maxRecDepth 65536 in
set_option maxHeartbeats 40000000 in
theorem rm0 (l : Launch) (Z : State) (a0 : Array Value) (hw : ∀ d ∈ tables_1, d.before a0 Z = true) (ws : List Jvm.Cond) (p1 : Int32) (q2 : Int64) (p3 : Int32) (p4 : Int32) (h0 : Heap) (n0 : Nat) (Z0 : n0 ≤ h0.size) :
    MetFree l x (head1 (Jvm.Cond.code x code maxLocals ret :: ws) room_1) (fun a U => a = #[(.int p1), (.long q2), (.int p3), (.int p4)] ∧ Z.Warmed39 U.vm ∧ U.heap = h0) (fun _ _ _ _ _ => True) (fun _ U o U' => ∃ v L, o = .returned v ∧ Q0 Z p1 q2 p3 p4 h0 n0 v U'.heap L ∧ FrameEnd U o U' L room_1.cells room_1.slots) := by
  refine MetFree.of_bodySF (plainFor_of_name pn_0) hisR ?_
  intro p e s m args below meth c s₁ Bd hml0 hP hK
  obtain ⟨rfl, hZ, hh⟩ := hP
  have hx := Bd.exec
  have hby := Bd.bytes
  have hml : c.maxLocals = 8 := hml0
  have hown : s.vm.findClass "com/example/brindlemere/brindlemere/pages/BigEndianPutPinLaw" = some m.cls := findClass_of_methodNamed Bd.named
  have hnm := (name_of_methodNamed Bd.named Bd.method).1
  have X0 : Stand p l e room_1 s m #[(.int p1), (.long q2), (.int p3), (.int p4)] below meth c s₁ [] 0 0 := Stand.of_body Bd
  have e0 : s₁.heap = h0 := by rw [← hh, Bd.state]; rfl
  have N0 := Fr.nil n0
  have pre0 : ∀ t, Steps p.tables e below (s₁.setTop (mkF m 0 #[.val (.int p1), .val (.long q2), .second, .val (.int p3), .val (.int p4), .unset, .unset, .unset] [])) t → Steps p.tables e below (s₁.setTop (entryFrame m #[(.int p1), (.long q2), (.int p3), (.int p4)] maxLocals)) t := fun t k => castTop (ef_0 m p1 q2 p3 p4) k
  obtain ⟨n, hn, en⟩ := own_rem9 p3
  obtain ⟨o, ho, eo⟩ := own_rem5 p1
  have st0 := tn0_0_17 p1 q2 p3 p4 X0 hx hZ hw hby hml hown
  rw [en, eo] at st0
  obtain ⟨TA, hA, LA, bA, XA, eA, NA, gA, ZA, VA, stA⟩ := tn0_17_131 (.val (.int p1)) (.val (.long q2)) .second (.val (.int p3)) p4 (.val (.int (Int32.ofNat n))) (.val (.int (Int32.ofNat o))) .unset n0 X0 hx hZ hw hby hml hown e0 N0 Z0 One.u
  obtain ⟨TB, hB, LB, XB, eB, NB, ZB, VB, stB'⟩ := tn0_131_141 (.val (.int p1)) q2 (.val (.int p3)) (.val (.int p4)) n o bA _ n0 XA hx hZ hw hby hml hown eA NA ZA (by omega) gA VA
  have hv := own_law p4 q2 o n ho hn
  obtain ⟨TC0, LC0, XC0, eC0, NC0, stC0⟩ := tn0_141_157 (.val (.int p1)) q2 (.val (.int p3)) p4 (Int32.ofNat n) (Int32.ofNat o) bA _ n0 XB hx hZ hw hby hml hown eB NB ZB VB (hv 0 (by decide))
  obtain ⟨TC1, LC1, XC1, eC1, NC1, stC1⟩ := tn0_157_173 (.val (.int p1)) q2 (.val (.int p3)) p4 (Int32.ofNat n) (Int32.ofNat o) bA _ n0 XC0 hx hZ hw hby hml hown eC0 NC0 ZB VB (hv 1 (by decide))
  obtain ⟨TC2, LC2, XC2, eC2, NC2, stC2⟩ := tn0_173_189 (.val (.int p1)) q2 (.val (.int p3)) p4 (Int32.ofNat n) (Int32.ofNat o) bA _ n0 XC1 hx hZ hw hby hml hown eC1 NC1 ZB VB (hv 2 (by decide))
  obtain ⟨TC3, LC3, XC3, eC3, NC3, stC3⟩ := tn0_189_205 (.val (.int p1)) q2 (.val (.int p3)) p4 (Int32.ofNat n) (Int32.ofNat o) bA _ n0 XC2 hx hZ hw hby hml hown eC2 NC2 ZB VB (hv 3 (by decide))
  obtain ⟨TC4, LC4, XC4, eC4, NC4, stC4⟩ := tn0_205_221 (.val (.int p1)) q2 (.val (.int p3)) p4 (Int32.ofNat n) (Int32.ofNat o) bA _ n0 XC3 hx hZ hw hby hml hown eC3 NC3 ZB VB (hv 4 (by decide))
  obtain ⟨TC5, LC5, XC5, eC5, NC5, stC5⟩ := tn0_221_237 (.val (.int p1)) q2 (.val (.int p3)) p4 (Int32.ofNat n) (Int32.ofNat o) bA _ n0 XC4 hx hZ hw hby hml hown eC4 NC4 ZB VB (hv 5 (by decide))
  obtain ⟨TC6, LC6, XC6, eC6, NC6, stC6⟩ := tn0_237_254 (.val (.int p1)) q2 (.val (.int p3)) p4 (Int32.ofNat n) (Int32.ofNat o) bA _ n0 XC5 hx hZ hw hby hml hown eC5 NC5 ZB VB (hv 6 (by decide))
  obtain ⟨TC7, LC7, XC7, eC7, NC7, stC7⟩ := tn0_254_271 (.val (.int p1)) q2 (.val (.int p3)) p4 (Int32.ofNat n) (Int32.ofNat o) bA _ n0 XC6 hx hZ hw hby hml hown eC6 NC6 ZB VB (hv 7 (by decide))
  obtain ⟨TC8, LC8, XC8, eC8, NC8, stC8⟩ := tn0_271_288 (.val (.int p1)) q2 (.val (.int p3)) p4 (Int32.ofNat n) (Int32.ofNat o) bA _ n0 XC7 hx hZ hw hby hml hown eC7 NC7 ZB VB (hv 8 (by decide))
  obtain ⟨TC9, LC9, XC9, eC9, NC9, stC9⟩ := tn0_288_305 (.val (.int p1)) q2 (.val (.int p3)) p4 (Int32.ofNat n) (Int32.ofNat o) bA _ n0 XC8 hx hZ hw hby hml hown eC8 NC8 ZB VB (hv 9 (by decide))
  obtain ⟨TC10, LC10, XC10, eC10, NC10, stC10⟩ := tn0_305_322 (.val (.int p1)) q2 (.val (.int p3)) p4 (Int32.ofNat n) (Int32.ofNat o) bA _ n0 XC9 hx hZ hw hby hml hown eC9 NC9 ZB VB (hv 10 (by decide))
  obtain ⟨TC11, LC11, XC11, eC11, NC11, stC11⟩ := tn0_322_339 (.val (.int p1)) q2 (.val (.int p3)) p4 (Int32.ofNat n) (Int32.ofNat o) bA _ n0 XC10 hx hZ hw hby hml hown eC10 NC10 ZB VB (hv 11 (by decide))
  obtain ⟨fs, hr, hrun, hended, hW, hsame⟩ := XC11.leave (v := some (.int (1 : Int32))) (fun h => by rw [Bd.returns] at h; cases h)
  refine ⟨_, _, pre0 _ ?_, hrun, hended, _, _, rfl, ?_, ⟨_, rfl⟩, hW, hsame.mono (by decide) (by decide)⟩
  · refine st0 _ ?_
    refine stA _ ?_
    refine stB' _ ?_
    refine stC0 _ ?_
    refine stC1 _ ?_
    refine stC2 _ ?_
    refine stC3 _ ?_
    refine stC4 _ ?_
    refine stC5 _ ?_
    refine stC6 _ ?_
    refine stC7 _ ?_
    refine stC8 _ ?_
    refine stC9 _ ?_
    refine stC10 _ ?_
    refine stC11 _ ?_
    show Steps p.tables e below (TC11.setTop (mkF m 339 #[.val (.int p1), .val (.long q2), .second, .val (.int p3), .val (.int p4), .val (.int (Int32.ofNat n)), .val (.int (Int32.ofNat o)), .val (.ref bA)] [])) _
    refine XS.iconst XC11.here hx rfl (hb hby at_339) ?_
    show Steps p.tables e below (TC11.setTop (mkF m 340 #[.val (.int p1), .val (.long q2), .second, .val (.int p3), .val (.int p4), .val (.int (Int32.ofNat n)), .val (.int (Int32.ofNat o)), .val (.ref bA)] [(.int (1 : Int32))])) _
    refine XS.goto XC11.here hx rfl (pc0 := 340) (pc' := 344) rfl (hb hby at_340) (by decide) (by decide) ?_
    show Steps p.tables e below (TC11.setTop (mkF m 344 #[.val (.int p1), .val (.long q2), .second, .val (.int p3), .val (.int p4), .val (.int (Int32.ofNat n)), .val (.int (Int32.ofNat o)), .val (.ref bA)] [(.int (1 : Int32))])) _
    exact retN XC11 hx (t := .boolean) Bd.returns (by simp) (hb hby at_344) hr
  · exact ⟨rfl, NC11⟩
theorem own_is_j {t : Term} {args : Array Value} {first s : State} {o : Option Outcome} {idx : List Nat} (h : (Jvm.Cond.isLong t).value args first o s idx = some true) : ∃ x, t.eval args first o idx s = some (.long x) := by
  simp only [Jvm.Cond.value] at h
  cases ht : t.eval args first o idx s with
  | none => rw [ht] at h; cases h
  | some v => cases v <;> simp [ht] at h ⊢
set_option maxRecDepth 65536 in
set_option maxHeartbeats 40000000 in
theorem comes_1 {Post : Tables → Env → Array Value → State → Outcome → State → Prop} (hpost : ∀ tb e args s v u, (limb_1_1.after args s (.returned v) u = true ∧ limb_1_2.after args s (.returned v) u = true ∧ True) → FrameEnd s (.returned v) u (Jvm.fieldLocs frame_1_writes args s ++ Jvm.arrayLocs frame_1_arrays args s ++ Jvm.staticLocs frame_1_statics s) 16 128 → Post tb e args s (.returned v) u) :
    ArmFor flags0 classFile x code maxLocals ret World_1 tables_1 room_1 Calls_1 rest_1 Pre_1 Post := by
  intro l hfl _ _ p e ha hc hk s m args below hf hA hF happ hP
  obtain ⟨hcalls, hrest, hpre⟩ := hP
  obtain ⟨-, -, -, hnamed, -, -, -, hat⟩ := (Spec.applies_iff hf).mp happ
  obtain ⟨hg, hn⟩ := and_e (Cond.before_iff.mp (show (Jvm.Cond.and given_1 narrow_1).before args s = true from hpre))
  obtain ⟨g6, g7⟩ := and_e hg
  obtain ⟨g8, g9⟩ := and_e g7
  obtain ⟨g10, g11⟩ := and_e g9
  obtain ⟨g12, g13⟩ := and_e g11
  obtain ⟨w0, w1, w2, w3, rfl⟩ : ∃ w0 w1 w2 w3 : Value, args = #[w0, w1, w2, w3] := by
    have hs : args.size = 4 := by simpa [Cond.value, given_1] using g6
    obtain ⟨L⟩ := args
    match L, hs with
    | [w0, w1, w2, w3], _ => exact ⟨w0, w1, w2, w3, rfl⟩
  have hw := fun d (hd : d ∈ tables_1) => atoms_spec (ws := Jvm.Cond.code x code maxLocals ret :: tables_1) hat d (List.mem_cons_of_mem _ hd)
  obtain ⟨i0, ei0⟩ := is_v g8
  obtain rfl : w0 = (.int i0) := Option.some.inj ei0
  obtain ⟨i1, ei1⟩ := own_is_j g10
  obtain rfl : w1 = (.long i1) := Option.some.inj ei1
  obtain ⟨i2, ei2⟩ := is_v g12
  obtain rfl : w2 = (.int i2) := Option.some.inj ei2
  obtain ⟨i3, ei3⟩ := is_v g13
  obtain rfl : w3 = (.int i3) := Option.some.inj ei3
  obtain ⟨n, o, h1, h2, h3, _, L, rfl, ⟨rfl, N⟩, hq⟩ := rm0 l s _ hw tables_1 i0 i1 i2 i3 s.heap s.heap.size (Nat.le_refl _) p e ha hc hk s m _ below hf ((Spec.applies_iff_loose hf).mp happ).1 ⟨rfl, State.Warmed39.refl s, rfl⟩ trivial
  refine ⟨n, _, h1, h2, h3, hpost _ _ _ _ _ _ ⟨Cond.after_iff.mpr rfl, Cond.after_iff.mpr (eq_i res_at (Term.int_eval (1)) rfl), trivial⟩ ⟨hq.1, hq.2.1, (hq.2.2.sift fun y hy => Or.inr (N y hy)).mono (by decide) (by decide)⟩⟩
theorem main_1_1 : Claimed_1_1 := comes_1 fun _ _ _ _ _ _ h hF => ⟨h.1, hF⟩
theorem main_1_2 : Claimed_1_2 := comes_1 fun _ _ _ _ _ _ h hF => ⟨h.2.1, hF⟩
end Jvm.Pilot.@@N@@
namespace Jvm.Pilot.@@N@@
open Jvm Jvm.ClassFile Sem Op Lib Jvm.Free Jvm.Stand Jvm.Pilot.@@N@@.Jvm.D
/-! MADE BY PROGRAM (witnessworld.py) out of the Statement's table words and the real class files: 9 classes; the members and pool entries that the words name. The judged class is class 1, her method 2. -/
namespace start1
open Jvm.ClassFile
def u (s : String) : CpInfo := .utf8 (stringToUtf16 s)
/-- a pool by its gaps: so many unusable entries, then the entry; so many at the end -/
def gap : Nat → List CpInfo → List CpInfo
  | 0, r => r
  | n + 1, r => .unusable :: gap n r
def poolList (es : List (Nat × CpInfo)) (last : Nat) : List CpInfo := es.foldr (fun e r => gap e.1 (e.2 :: r)) (gap last [])
def pool (es : List (Nat × CpInfo)) (last : Nat) : Array CpInfo := ⟨poolList es last⟩
def fileOf (pool : Array CpInfo) (this : Nat) (attrs : Array Attribute := #[]) (ms : Array MethodInfo := #[]) (fl : Nat := 33) (sup : Nat := 0) (ifs : Array Nat := #[]) (fds : Array FieldInfo := #[]) : ClassFile where
  minorVersion := 0
  majorVersion := 65
  constantPool := pool
  accessFlags := fl
  thisClass := this
  superClass := sup
  interfaces := ifs
  fields := fds
  methods := ms
  attributes := attrs
def plain (name : String) (sup : Option ClassId) : Class where
  name := name
  kind := .ordinary
  loader := none
  accessFlags := 33
  super := sup
  interfaces := #[]
  cf := none
  fields := #[]
  methods := #[]
  instanceTypes := #[]
  staticTypes := #[]
  resolved := #[]
  callSites := []
  init := .initialized
  statics := none
  mirror := none

def pool0 : Array CpInfo := pool [(5, u "<init>"), (0, u "()V"), (1, .class_ 10), (1, u "java/lang/Object")] 113

def k0m0 : Method := { name := "<init>", desc := "()V", sig := { parameters := [], returnType := none }, accessFlags := 1, code := none }
/-- java/lang/Object -/
def k0 : Class := { plain "java/lang/Object" none with
  accessFlags := 33
  interfaces := #[]
  cf := some (fileOf pool0 8 #[] #[{ accessFlags := 1, nameIndex := 5, descriptorIndex := 6, attributes := #[] }] 33 0 #[] #[])
  fields := #[]
  methods := #[k0m0]
  instanceTypes := #[]
  staticTypes := #[]
  resolved := Array.replicate 124 none
  statics := none }

def pool1 : Array CpInfo := pool [(2, .class_ 4), (1, u "java/lang/Object"), (0, u "<init>"), (0, u "()V"), (0, .long 255), (1, .integer 2147483647), (0, .methodref 11 12), (0, .class_ 13), (0, .nameAndType 14 15), (0, u "com/example/brindlemere/brindlemere/pages/BigEndian"), (0, u "put"), (0, u "([BIJI)V"), (0, .methodref 17 18), (0, .class_ 19), (0, .nameAndType 20 21), (0, u "com/example/brindlemere/brindlemere/pages/BigEndianPutPinLaw"), (0, u "ok"), (0, u "([BIIJII)Z"), (3, u "law"), (0, u "(IJII)Z")] 4

def k1m0 : Method := { name := "<init>", desc := "()V", sig := { parameters := [], returnType := none }, accessFlags := 2, code := none }
def k1c1 : Code := { maxStack := 4, maxLocals := 9, code := method_2_code, exceptionTable := #[], attributes := #[] }
def k1m1 : Method := { name := "ok", desc := "([BIIJII)Z", sig := { parameters := [(.array .byte), .int, .int, .long, .int, .int], returnType := some .boolean }, accessFlags := 10, code := some k1c1 }
def k1c2 : Code := { maxStack := 7, maxLocals := 8, code := code, exceptionTable := #[], attributes := #[] }
def k1m2 : Method := { name := "law", desc := "(IJII)Z", sig := { parameters := [.int, .long, .int, .int], returnType := some .boolean }, accessFlags := 9, code := some k1c2 }
/-- com/example/brindlemere/brindlemere/pages/BigEndianPutPinLaw -/
def k1 : Class := { plain "com/example/brindlemere/brindlemere/pages/BigEndianPutPinLaw" (some 0) with
  accessFlags := 49
  interfaces := #[]
  cf := some (fileOf pool1 17 #[] #[{ accessFlags := 2, nameIndex := 5, descriptorIndex := 6, attributes := #[] }, { accessFlags := 10, nameIndex := 20, descriptorIndex := 21, attributes := #[] }, { accessFlags := 9, nameIndex := 25, descriptorIndex := 26, attributes := #[] }] 49 2 #[] #[])
  fields := #[]
  methods := #[k1m0, k1m1, k1m2]
  instanceTypes := #[]
  staticTypes := #[]
  resolved := Array.replicate 31 none
  statics := none }

def pool2 : Array CpInfo := pool [(2, .class_ 4), (1, u "java/lang/Object"), (0, u "<init>"), (0, u "()V"), (2, .class_ 10), (0, u "com/example/brindlemere/brindlemere/pages/BigEndian"), (2, u "put"), (0, u "([BIJI)V")] 5

def k2m0 : Method := { name := "<init>", desc := "()V", sig := { parameters := [], returnType := none }, accessFlags := 2, code := none }
def k2c1 : Code := { maxStack := 7, maxLocals := 6, code := prog_150_method_2_code, exceptionTable := #[], attributes := #[] }
def k2m1 : Method := { name := "put", desc := "([BIJI)V", sig := { parameters := [(.array .byte), .int, .long, .int], returnType := none }, accessFlags := 9, code := some k2c1 }
/-- com/example/brindlemere/brindlemere/pages/BigEndian -/
def k2 : Class := { plain "com/example/brindlemere/brindlemere/pages/BigEndian" (some 0) with
  accessFlags := 49
  interfaces := #[]
  cf := some (fileOf pool2 9 #[] #[{ accessFlags := 2, nameIndex := 5, descriptorIndex := 6, attributes := #[] }, { accessFlags := 9, nameIndex := 13, descriptorIndex := 14, attributes := #[] }] 49 2 #[] #[])
  fields := #[]
  methods := #[k2m0, k2m1]
  instanceTypes := #[]
  staticTypes := #[]
  resolved := Array.replicate 20 none
  statics := none }

def pool3 : Array CpInfo := pool [(1, u "java/lang/Cloneable"), (0, .class_ 1), (0, u "java/lang/Object"), (0, .class_ 3)] 3

/-- java/lang/Cloneable -/
def k3 : Class := { plain "java/lang/Cloneable" (some 0) with
  accessFlags := 1537
  interfaces := #[]
  cf := some (fileOf pool3 2 #[] #[] 1537 4 #[] #[])
  fields := #[]
  methods := #[]
  instanceTypes := #[]
  staticTypes := #[]
  resolved := Array.replicate 8 none
  statics := none }

def pool4 : Array CpInfo := pool [(1, u "java/io/Serializable"), (0, .class_ 1), (0, u "java/lang/Object"), (0, .class_ 3)] 3

/-- java/io/Serializable -/
def k4 : Class := { plain "java/io/Serializable" (some 0) with
  accessFlags := 1537
  interfaces := #[]
  cf := some (fileOf pool4 2 #[] #[] 1537 4 #[] #[])
  fields := #[]
  methods := #[]
  instanceTypes := #[]
  staticTypes := #[]
  resolved := Array.replicate 8 none
  statics := none }

/-- the primitive byte -/
def k5 : Class := { plain "byte" none with kind := .primitive 'B', accessFlags := 0x411 }
/-- [B -/
def k6 : Class := { plain "[B" (some 0) with kind := .array 5 .byte, interfaces := #[3, 4], accessFlags := 1041 }

/-- the primitive int -/
def k7 : Class := { plain "int" none with kind := .primitive 'I', accessFlags := 0x411 }
/-- [I -/
def k8 : Class := { plain "[I" (some 0) with kind := .array 7 .int, interfaces := #[3, 4], accessFlags := 1041 }

def heap : Heap := #[]
def classes : Array Class := #[k0, k1, k2, k3, k4, k5, k6, k7, k8]
def interned : List (Array UInt16 × Addr) := []
def slotsUsed : Nat := 0
def theMethod : MethodId := ⟨1, 2⟩
def args0 : Array Value := #[.int 5, .long 7, .int 3, .int 9]
def aboutOver (below : List Frame) : State where
  vm := { classes := classes, interned := interned.toArray }
  heap := heap
  slotsUsed := slotsUsed
  threads := #[{ frames := .invoking theMethod args0 :: below }]
def below0 : List Frame := [.native { method := ⟨0, 0⟩, args := #[] }]
def about1 : State := aboutOver below0
def p0 : Program := .bare "" "" ""
def e0 : Env := launch0.env 0 0 0
theorem w_frames : about1.frames = Frame.invoking theMethod args0 :: below0 := rfl
set_option maxRecDepth 65536 in
theorem w_args : argsFit about1.vm theMethod args0 = true := by decide +kernel
set_option maxRecDepth 65536 in
theorem w_heap : heapFits about1 = true := by decide +kernel
set_option maxRecDepth 65536 in
theorem w_runnable : about1.curStatus? = some .runnable := by decide +kernel
set_option maxRecDepth 65536 in
theorem w_alone : about1.alone = true := by decide +kernel
set_option maxRecDepth 65536 in
theorem w_named : about1.methodNamed? x = some theMethod := by decide +kernel
set_option maxRecDepth 65536 in
theorem w_hears : about1.hears theMethod below0 = true := by decide +kernel
set_option maxRecDepth 65536 in
theorem w_ripe : about1.ripe theMethod args0 below0 = true := by decide +kernel
theorem w_running : about1.status = .running := rfl
set_option maxRecDepth 65536 in
theorem w_room : about1.hasRoom e0.platform room_1 = true :=
  launch0.hasRoom_least _ room_1 (by decide +kernel) (by decide +kernel) (by decide +kernel) (by decide +kernel) (by decide +kernel) (by decide +kernel)
theorem allAtoms_all (ts : List Jvm.Cond) (a : Array Jvm.Value) (st : Jvm.State) : (allAtoms ts).before a st = ts.all (fun c => c.before a st) := by
  induction ts with
  | nil => rfl
  | cons c t ih =>
    show (Jvm.Cond.and c (allAtoms t)).before a st = _
    rw [Jvm.Cond.before_and, ih, List.all_cons]
def words1 : List Jvm.Cond := Jvm.Cond.code x code maxLocals ret :: tables_1
/-- a 'code' word, met by the world's own term for the bytes: nothing is compared byte by byte -/
theorem code_word {y : MethodName} {bytes : ByteArray} {mx : Nat} {rt : Option FieldType} {a : Array Value} {s : State} {m : MethodId} {meth : Method} {c : Code} (h1 : s.methodNamed? y = some m) (h2 : s.vm.method? m = some meth) (h3 : meth.code = some c) (h4 : c.code = bytes)
    (h5 : (c.maxLocals == mx && c.exceptionTable.isEmpty && decide (c.maxStack ≤ mostOperands) && decide (meth.sig.returnType = rt) && !meth.locks && decide (parseMethodDescriptor y.desc = some meth.sig)) = true) : (Jvm.Cond.code y bytes mx rt).before a s = true := by
  simp only [Bool.and_eq_true, beq_iff_eq, Bool.not_eq_true', decide_eq_true_eq] at h5
  obtain ⟨⟨⟨⟨⟨g1, g2⟩, g3⟩, g4⟩, g5⟩, g6⟩ := h5
  simp [Cond.before, Cond.holds, Cond.value, h1, h2, h3, h4, g1, g2, g3, g4, g5, g6]
def isCode : Jvm.Cond → Bool
  | .code _ _ _ _ => true
  | _ => false
theorem all_split {L : List Jvm.Cond} {P : Jvm.Cond → Bool} (h1 : L.all (fun c => isCode c || P c) = true) (h2 : ∀ c ∈ L.filter isCode, P c = true) : L.all P = true := by
  refine List.all_eq_true.mpr fun c hc => ?_
  have h := List.all_eq_true.mp h1 c hc
  rcases Bool.eq_false_or_eq_true (isCode c) with hi | hi
  · exact h2 c (List.mem_filter.mpr ⟨hc, hi⟩)
  · simpa [hi] using h
set_option maxRecDepth 65536 in
theorem w_c0 : (Jvm.Cond.code x code maxLocals ret).before args0 about1 = true := code_word (m := ⟨1, 2⟩) (meth := k1m2) (c := k1c2) (by decide +kernel) rfl rfl rfl (by decide +kernel)
set_option maxRecDepth 65536 in
theorem w_c1 : (Jvm.Cond.code ({ cls := "com/example/brindlemere/brindlemere/pages/BigEndian", name := "put", desc := "([BIJI)V" } : Jvm.MethodName) prog_150_method_2_code (6 : Nat) (Option.none : Option Jvm.ClassFile.FieldType)).before args0 about1 = true := code_word (m := ⟨2, 1⟩) (meth := k2m1) (c := k2c1) (by decide +kernel) rfl rfl rfl (by decide +kernel)
set_option maxRecDepth 65536 in
theorem w_c2 : (Jvm.Cond.code ({ cls := "com/example/brindlemere/brindlemere/pages/BigEndianPutPinLaw", name := "ok", desc := "([BIIJII)Z" } : Jvm.MethodName) method_2_code (9 : Nat) (Option.some Jvm.ClassFile.FieldType.boolean)).before args0 about1 = true := code_word (m := ⟨1, 1⟩) (meth := k1m1) (c := k1c1) (by decide +kernel) rfl rfl rfl (by decide +kernel)
def codes1 : List Jvm.Cond := [Jvm.Cond.code x code maxLocals ret, Jvm.Cond.code ({ cls := "com/example/brindlemere/brindlemere/pages/BigEndian", name := "put", desc := "([BIJI)V" } : Jvm.MethodName) prog_150_method_2_code (6 : Nat) (Option.none : Option Jvm.ClassFile.FieldType), Jvm.Cond.code ({ cls := "com/example/brindlemere/brindlemere/pages/BigEndianPutPinLaw", name := "ok", desc := "([BIIJII)Z" } : Jvm.MethodName) method_2_code (9 : Nat) (Option.some Jvm.ClassFile.FieldType.boolean)]
set_option maxRecDepth 65536 in
theorem codes_eq : words1.filter isCode = codes1 := rfl
theorem w_codes : ∀ c ∈ words1.filter isCode, c.before args0 about1 = true := by
  rw [codes_eq]
  intro c hc
  simp only [codes1, List.mem_cons, List.not_mem_nil, or_false] at hc
  rcases hc with rfl | rfl | rfl
  · exact w_c0
  · exact w_c1
  · exact w_c2
set_option maxRecDepth 65536 in
theorem w_t1 : words1.all (fun c => isCode c || c.before args0 about1) = true := by decide +kernel
theorem w_tables : (allAtoms (Jvm.Cond.code x code maxLocals ret :: tables_1)).before args0 about1 = true := by
  rw [allAtoms_all]
  show words1.all (fun c => c.before args0 about1) = true
  refine all_split ?_ w_codes
  rw [w_t1]
set_option maxRecDepth 65536 in
theorem w_case : (Jvm.Cond.and given_1 narrow_1).before args0 about1 = true := by decide +kernel
theorem w_applies : (headSpec (Jvm.Cond.code x code maxLocals ret :: tables_1) room_1).applies x e0.platform about1 = true :=
  (Spec.applies_iff w_frames).mpr ⟨w_running, w_runnable, w_alone, w_named, w_hears, w_ripe, w_room, w_tables⟩
theorem atStart : AtStart classFile x code maxLocals ret World_1 tables_1 room_1 Calls_1 rest_1 Pre_1 launch0 p0 e0 about1 theMethod args0 below0 :=
  ⟨lists_1, trivial, launch0.admits_env _ _ _, launch0.least_env, fairChoices_fair.cas, fairChoices_fair.clock, w_frames, w_args, w_heap, w_applies, trivial, trivial, w_case⟩
end start1
theorem witness_1 : WitnessClaimed_1 := ⟨start1.p0, start1.e0, start1.about1, start1.theMethod, start1.args0, start1.below0, start1.atStart⟩
end Jvm.Pilot.@@N@@
