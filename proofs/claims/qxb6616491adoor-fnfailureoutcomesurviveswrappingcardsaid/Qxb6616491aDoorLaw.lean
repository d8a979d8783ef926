import Derived.Test.Qxb6616491aDoorOut
namespace Go.Proofs.Qxb6616491aDoor
open Go.RowKit Go.Extern.Stop Go.Stop Go.Extern

set_option maxRecDepth 100000 in
set_option maxHeartbeats 4000000 in
theorem law_any (a b : ByteArray) (d c : Addr) (w : World) (ha : a.size ≤ maxLen) (hb : b.size ≤ maxLen) (hB : Base w d c) (hdc : d ≠ c) :
    Calls Tryd.prog 3 #[.string a, .string b] w fun e w' => e = .returned (.bool true) ∧ Below w.heap.size w w' := by
  have HB : Hid (Base w d c) := hB
  have HD : Hid (d ≠ c) := hdc
  have Bt : Below w.heap.size w w := Below.refl _ _
  clear hB hdc
  have S1 : (out true false).toList = [100, 117, 112, 108, 105, 99, 97, 116, 101, 95, 107, 101, 121] := by decide +kernel
  have S2 : (out false true).toList = [98, 97, 100, 95, 118, 97, 108, 117, 101] := by decide +kernel
  have S3 : (out false false).toList = [] := by decide +kernel
  by_cases hs : a.size + b.size ≤ 1048576
  rotate_left
  · have e0 : decide (a.size + b.size ≤ 1048576) = false := by simpa using hs
    go_enter Tryd.func3, Tryd.ntmps3
    go_wp2_with fail
    refine (bytes5 a b _ ha hb).mono ?_
    rw [e0]
    rintro e w' ⟨rfl, hw⟩
    obtain rfl := hw.symm
    go_wp2_with fail
    go_ret
    exact ⟨rfl, Bt⟩
  have e0 : decide (a.size + b.size ≤ 1048576) = true := by simpa using hs
  have hs1 : (a.size : Int) ≤ 1048576 := by omega
  have hs2 : (b.size : Int) ≤ 1048576 - (a.size : Int) := by omega
  go_enter Tryd.func3, Tryd.ntmps3
  go_wp2_with fail
  refine (bytes5 a b _ ha hb).mono ?_
  rw [e0]
  rintro e w' ⟨rfl, hw⟩
  obtain rfl := hw.symm
  clear hw e0 hs
  go_wp2_with fail
  refine (err7 _ _ HB.out.1).mono ?_
  rintro e w' ⟨rfl, hw⟩
  obtain rfl := hw.symm
  clear hw
  go_wp2_with fail
  refine (fo_any HB.out (isR_same _ d) (isR_other HB.out.2.2.1 HB.out.2.2.2.1 HD.out)).mono ?_
  rintro e w' ⟨rfl, hw⟩
  obtain rfl := hw.symm
  clear hw
  go_wp2_with fail
  refine (err8 _ _ HB.out.2.1).mono ?_
  rintro e w' ⟨rfl, hw⟩
  obtain rfl := hw.symm
  clear hw
  go_wp2_with fail
  refine (fo_any HB.out (isR_other HB.out.2.2.2.1 HB.out.2.2.1 (Ne.symm HD.out)) (isR_same _ c)).mono ?_
  rintro e w' ⟨rfl, hw⟩
  obtain rfl := hw.symm
  clear hw
  go_wp2_with fail
  refine (new_any a _).mono ?_
  rintro e w1 ⟨rfl, hn, st⟩
  have N1d : Hid ((⟨w.heap.size, 0, none⟩ : Addr) ≠ d) := ne_new HB.out.2.2.1
  have N1c : Hid ((⟨w.heap.size, 0, none⟩ : Addr) ≠ c) := ne_new HB.out.2.2.2.1
  replace HB : Hid (Base w1 d c) := base_below hn HB.out
  replace Bt : Below w.heap.size w w1 := Bt.trans (hn.mono Bt.size)
  have N1 : Hid (Str w1 ⟨w.heap.size, 0, none⟩) := st
  clear hn st
  go_wp2_with fail
  refine (fo_any HB.out (isR_other N1.out HB.out.2.2.1 N1d.out) (isR_other N1.out HB.out.2.2.2.1 N1c.out)).mono ?_
  rintro e w' ⟨rfl, hw⟩
  obtain rfl := hw.symm
  clear hw
  clear N1
  clear N1d N1c
  go_wp2_with fail
  refine (fo_nil HB.out).mono ?_
  rintro e w' ⟨rfl, hw⟩
  obtain rfl := hw.symm
  clear hw
  go_wp2_with fail
  refine (new_any a _).mono ?_
  rintro e w2 ⟨rfl, hn, st⟩
  have N2d : Hid ((⟨w1.heap.size, 0, none⟩ : Addr) ≠ d) := ne_new HB.out.2.2.1
  have N2c : Hid ((⟨w1.heap.size, 0, none⟩ : Addr) ≠ c) := ne_new HB.out.2.2.2.1
  replace HB : Hid (Base w2 d c) := base_below hn HB.out
  replace Bt : Below w.heap.size w w2 := Bt.trans (hn.mono Bt.size)
  have N2 : Hid (Str w2 ⟨w1.heap.size, 0, none⟩) := st
  clear hn st
  go_wp2_with fail
  refine (err7 _ _ HB.out.1).mono ?_
  rintro e w' ⟨rfl, hw⟩
  obtain rfl := hw.symm
  clear hw
  go_wp2_with fail
  refine (new_any b _).mono ?_
  rintro e w3 ⟨rfl, hn, st⟩
  have N3d : Hid ((⟨w2.heap.size, 0, none⟩ : Addr) ≠ d) := ne_new HB.out.2.2.1
  have N3c : Hid ((⟨w2.heap.size, 0, none⟩ : Addr) ≠ c) := ne_new HB.out.2.2.2.1
  replace HB : Hid (Base w3 d c) := base_below hn HB.out
  replace Bt : Below w.heap.size w w3 := Bt.trans (hn.mono Bt.size)
  replace N2 : Hid (Str w3 ⟨w1.heap.size, 0, none⟩) := str_below hn N2.out
  have N3 : Hid (Str w3 ⟨w2.heap.size, 0, none⟩) := st
  clear hn st
  go_wp2_with fail
  refine (join_any 33 33 (.pointer (some d)) (.pointer (some ⟨w2.heap.size, 0, none⟩)) _).mono ?_
  rintro e w4 ⟨rfl, hn, jn⟩
  replace HB : Hid (Base w4 d c) := base_below hn HB.out
  replace Bt : Below w.heap.size w w4 := Bt.trans (hn.mono Bt.size)
  replace N2 : Hid (Str w4 ⟨w1.heap.size, 0, none⟩) := str_below hn N2.out
  replace N3 : Hid (Str w4 ⟨w2.heap.size, 0, none⟩) := str_below hn N3.out
  have J1 : Hid (Jn w4 w3.heap.size 33 33 (.pointer (some d)) (.pointer (some ⟨w2.heap.size, 0, none⟩))) := jn
  clear hn jn
  go_wp2_with fail
  refine (join_any 33 37 (.pointer (some ⟨w1.heap.size, 0, none⟩)) (.pointer (some ⟨w3.heap.size + 2, 0, none⟩)) _).mono ?_
  rintro e w5 ⟨rfl, hn, jn⟩
  replace HB : Hid (Base w5 d c) := base_below hn HB.out
  replace Bt : Below w.heap.size w w5 := Bt.trans (hn.mono Bt.size)
  replace N2 : Hid (Str w5 ⟨w1.heap.size, 0, none⟩) := str_below hn N2.out
  replace N3 : Hid (Str w5 ⟨w2.heap.size, 0, none⟩) := str_below hn N3.out
  replace J1 : Hid (Jn w5 w3.heap.size 33 33 (.pointer (some d)) (.pointer (some ⟨w2.heap.size, 0, none⟩))) := jn_below hn J1.out
  have J2 : Hid (Jn w5 w4.heap.size 33 37 (.pointer (some ⟨w1.heap.size, 0, none⟩)) (.pointer (some ⟨w3.heap.size + 2, 0, none⟩))) := jn
  clear hn jn
  go_wp2_with fail
  refine (fo_any HB.out (isR_join J2.out (isR_other N2.out HB.out.2.2.1 N2d.out) (isR_join J1.out (isR_same _ d) (isR_other N3.out HB.out.2.2.1 N3d.out))) (isR_join J2.out (isR_other N2.out HB.out.2.2.2.1 N2c.out) (isR_join J1.out (isR_other HB.out.2.2.1 HB.out.2.2.2.1 HD.out) (isR_other N3.out HB.out.2.2.2.1 N3c.out)))).mono ?_
  rintro e w' ⟨rfl, hw⟩
  obtain rfl := hw.symm
  clear hw
  clear N2 N3 J1 J2
  clear N2d N2c N3d N3c
  go_wp2_with fail
  refine (new_any a _).mono ?_
  rintro e w6 ⟨rfl, hn, st⟩
  have N4d : Hid ((⟨w5.heap.size, 0, none⟩ : Addr) ≠ d) := ne_new HB.out.2.2.1
  have N4c : Hid ((⟨w5.heap.size, 0, none⟩ : Addr) ≠ c) := ne_new HB.out.2.2.2.1
  replace HB : Hid (Base w6 d c) := base_below hn HB.out
  replace Bt : Below w.heap.size w w6 := Bt.trans (hn.mono Bt.size)
  have N4 : Hid (Str w6 ⟨w5.heap.size, 0, none⟩) := st
  clear hn st
  go_wp2_with fail
  refine (err8 _ _ HB.out.2.1).mono ?_
  rintro e w' ⟨rfl, hw⟩
  obtain rfl := hw.symm
  clear hw
  go_wp2_with fail
  refine (join_any 33 33 (.pointer (some ⟨w5.heap.size, 0, none⟩)) (.pointer (some c)) _).mono ?_
  rintro e w7 ⟨rfl, hn, jn⟩
  replace HB : Hid (Base w7 d c) := base_below hn HB.out
  replace Bt : Below w.heap.size w w7 := Bt.trans (hn.mono Bt.size)
  replace N4 : Hid (Str w7 ⟨w5.heap.size, 0, none⟩) := str_below hn N4.out
  have J3 : Hid (Jn w7 w6.heap.size 33 33 (.pointer (some ⟨w5.heap.size, 0, none⟩)) (.pointer (some c))) := jn
  clear hn jn
  go_wp2_with fail
  refine (new_any b _).mono ?_
  rintro e w8 ⟨rfl, hn, st⟩
  have N5d : Hid ((⟨w7.heap.size, 0, none⟩ : Addr) ≠ d) := ne_new HB.out.2.2.1
  have N5c : Hid ((⟨w7.heap.size, 0, none⟩ : Addr) ≠ c) := ne_new HB.out.2.2.2.1
  replace HB : Hid (Base w8 d c) := base_below hn HB.out
  replace Bt : Below w.heap.size w w8 := Bt.trans (hn.mono Bt.size)
  replace N4 : Hid (Str w8 ⟨w5.heap.size, 0, none⟩) := str_below hn N4.out
  replace J3 : Hid (Jn w8 w6.heap.size 33 33 (.pointer (some ⟨w5.heap.size, 0, none⟩)) (.pointer (some c))) := jn_below hn J3.out
  have N5 : Hid (Str w8 ⟨w7.heap.size, 0, none⟩) := st
  clear hn st
  go_wp2_with fail
  refine (join_any 37 33 (.pointer (some ⟨w6.heap.size + 2, 0, none⟩)) (.pointer (some ⟨w7.heap.size, 0, none⟩)) _).mono ?_
  rintro e w9 ⟨rfl, hn, jn⟩
  replace HB : Hid (Base w9 d c) := base_below hn HB.out
  replace Bt : Below w.heap.size w w9 := Bt.trans (hn.mono Bt.size)
  replace N4 : Hid (Str w9 ⟨w5.heap.size, 0, none⟩) := str_below hn N4.out
  replace J3 : Hid (Jn w9 w6.heap.size 33 33 (.pointer (some ⟨w5.heap.size, 0, none⟩)) (.pointer (some c))) := jn_below hn J3.out
  replace N5 : Hid (Str w9 ⟨w7.heap.size, 0, none⟩) := str_below hn N5.out
  have J4 : Hid (Jn w9 w8.heap.size 37 33 (.pointer (some ⟨w6.heap.size + 2, 0, none⟩)) (.pointer (some ⟨w7.heap.size, 0, none⟩))) := jn
  clear hn jn
  go_wp2_with fail
  refine (fo_any HB.out (isR_join J4.out (isR_join J3.out (isR_other N4.out HB.out.2.2.1 N4d.out) (isR_other HB.out.2.2.2.1 HB.out.2.2.1 (Ne.symm HD.out))) (isR_other N5.out HB.out.2.2.1 N5d.out)) (isR_join J4.out (isR_join J3.out (isR_other N4.out HB.out.2.2.2.1 N4c.out) (isR_same _ c)) (isR_other N5.out HB.out.2.2.2.1 N5c.out))).mono ?_
  rintro e w' ⟨rfl, hw⟩
  obtain rfl := hw.symm
  clear hw
  clear N4 J3 N5 J4
  clear N4d N4c N5d N5c
  go_wp2_with fail
  refine (new_any a _).mono ?_
  rintro e w10 ⟨rfl, hn, st⟩
  have N6d : Hid ((⟨w9.heap.size, 0, none⟩ : Addr) ≠ d) := ne_new HB.out.2.2.1
  have N6c : Hid ((⟨w9.heap.size, 0, none⟩ : Addr) ≠ c) := ne_new HB.out.2.2.2.1
  replace HB : Hid (Base w10 d c) := base_below hn HB.out
  replace Bt : Below w.heap.size w w10 := Bt.trans (hn.mono Bt.size)
  have N6 : Hid (Str w10 ⟨w9.heap.size, 0, none⟩) := st
  clear hn st
  go_wp2_with fail
  refine (new_any b _).mono ?_
  rintro e w11 ⟨rfl, hn, st⟩
  have N7d : Hid ((⟨w10.heap.size, 0, none⟩ : Addr) ≠ d) := ne_new HB.out.2.2.1
  have N7c : Hid ((⟨w10.heap.size, 0, none⟩ : Addr) ≠ c) := ne_new HB.out.2.2.2.1
  replace HB : Hid (Base w11 d c) := base_below hn HB.out
  replace Bt : Below w.heap.size w w11 := Bt.trans (hn.mono Bt.size)
  replace N6 : Hid (Str w11 ⟨w9.heap.size, 0, none⟩) := str_below hn N6.out
  have N7 : Hid (Str w11 ⟨w10.heap.size, 0, none⟩) := st
  clear hn st
  go_wp2_with fail
  refine (join_any 33 33 (.pointer (some ⟨w9.heap.size, 0, none⟩)) (.pointer (some ⟨w10.heap.size, 0, none⟩)) _).mono ?_
  rintro e w12 ⟨rfl, hn, jn⟩
  replace HB : Hid (Base w12 d c) := base_below hn HB.out
  replace Bt : Below w.heap.size w w12 := Bt.trans (hn.mono Bt.size)
  replace N6 : Hid (Str w12 ⟨w9.heap.size, 0, none⟩) := str_below hn N6.out
  replace N7 : Hid (Str w12 ⟨w10.heap.size, 0, none⟩) := str_below hn N7.out
  have J5 : Hid (Jn w12 w11.heap.size 33 33 (.pointer (some ⟨w9.heap.size, 0, none⟩)) (.pointer (some ⟨w10.heap.size, 0, none⟩))) := jn
  clear hn jn
  go_wp2_with fail
  refine (fo_any HB.out (isR_join J5.out (isR_other N6.out HB.out.2.2.1 N6d.out) (isR_other N7.out HB.out.2.2.1 N7d.out)) (isR_join J5.out (isR_other N6.out HB.out.2.2.2.1 N6c.out) (isR_other N7.out HB.out.2.2.2.1 N7c.out))).mono ?_
  rintro e w' ⟨rfl, hw⟩
  obtain rfl := hw.symm
  clear hw
  clear N6 N7 J5
  clear N6d N6c N7d N7c
  go_wp2_with fail
  go_ret
  exact ⟨rfl, Bt⟩
end Go.Proofs.Qxb6616491aDoor
