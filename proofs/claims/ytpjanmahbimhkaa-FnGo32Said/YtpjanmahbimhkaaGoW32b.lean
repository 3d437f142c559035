/-
  The walk of a law.
-/
import Derived.Test.YtpjanmahbimhkaaGoL2
import Derived.Test.YtpjanmahbimhkaaWrap32
import Derived.Test.YtpjanmahbimhkaaFmtB
import Derived.Test.YtpjanmahbimhkaaFrame
namespace Go.Proofs.Ytpjanmahbimhkaa.SF
open Go.ChangeShapes Go.WideShapes Go.ChangeAt Go.RowKit
set_option linter.unusedVariables false
set_option linter.unusedSimpArgs false
set_option maxRecDepth 100000 in
set_option maxHeartbeats 8000000 in
theorem go32_b (x y : Nat) (w : World) (hx : x < 4294967296) (hy : y < 4294967296) (h1 : eqB (widen x) (widen y) = false) (h2 : gtB (widen x) (widen y) = true) (h3 : geB (widen x) (widen y) = true) (e1 : (FloatKind.f32.format.order x y == some .eq) = false) (e2 : (FloatKind.f32.format.order x y == some .gt) = true) : Calls Try.prog 12 #[.int .u32 (x : Int), .int .u32 (y : Int)] w (LawPost w) := by
  have IA := fun w => implAdd32 x y w hx hy
  have lA := add_lt32 hx hy
  have FA := fadd_fv32 hx hy
  have LA := fun w w0 => alike_fv32 (r := add32 x y) lA rfl w w0 x y
  have WA := fun w0 => fv_lt32 (n := isNaN32 (add32 x y)) (r := add32 x y) lA w0 x y
  have IM := fun w => implMul32 x y w hx hy
  have lM := mul_lt32 x y
  have FM := fmul_fv32 hx hy
  have LM := fun w w0 => alike_fv32 (r := mul32 x y) lM rfl w w0 x y
  have WM := fun w0 => fv_lt32 (n := isNaN32 (mul32 x y)) (r := mul32 x y) lM w0 x y
  have IQ := fun w => implDiv32 x y w hx hy
  have lQ := div_lt32 x y
  have FQ := fdiv_fv32 hx hy
  have LQ := fun w w0 => alike_fv32 (r := div32 x y) lQ rfl w w0 x y
  have WQ := fun w0 => fv_lt32 (n := isNaN32 (div32 x y)) (r := div32 x y) lQ w0 x y
  have IE := fun w => implEq32 x y w hx hy
  have IG := fun w => implGt32 x y w hx hy
  have IH := fun w => implGe32 x y w hx hy
  rw [h1] at IE
  rw [h2] at IG
  rw [h3] at IH
  generalize isNaN32 (add32 x y) = nA at *
  generalize add32 x y = vA at *
  generalize isNaN32 (mul32 x y) = nM at *
  generalize mul32 x y = vM at *
  generalize isNaN32 (div32 x y) = nQ at *
  generalize div32 x y = vQ at *
  have wA : IntKind.u64.wrap (vA : Int) = (vA : Int) := wrap_u64_nat (by omega)
  have wM : IntKind.u64.wrap (vM : Int) = (vM : Int) := wrap_u64_nat (by omega)
  have wQ : IntKind.u64.wrap (vQ : Int) = (vQ : Int) := wrap_u64_nat (by omega)
  have R1 := run_from32
  have R2 := run_bits32
  have IA := Lib.hid IA
  have LA := Lib.hid LA
  have IM := Lib.hid IM
  have LM := Lib.hid LM
  have IQ := Lib.hid IQ
  have LQ := Lib.hid LQ
  have IE := Lib.hid IE
  have IG := Lib.hid IG
  have IH := Lib.hid IH
  clear hx hy h1 h2 h3 lA lM lQ
  have B0 := Lib.hid (Below.refl w.heap.size w)
  go_enter Try.func12, Try.ntmps12
  go_wp2_with fail
  refine (fmt32_any _).mono ?_
  rintro e u1 ⟨rfl, hb⟩
  have B1 := Lib.hid (below_trans' B0.out hb)
  clear hb
  have HD := Lib.hid (FB32.start u1)
  go_wp2_with fail
  simp only [List.append]
  refine wp_region_held_drew (S := fun w' => FB32 u1 w') (by kernel_rfl) HD.out (fun hHeld => ?_)
  refine' wpAnyH_take (i := 0) (oi := _) (v := _) rfl (by kernel_rfl) (by kernel_rfl) (by kernel_rfl) (fun _ _ _ h => h) (Or.inl ⟨by simp [Region.wanted, yielded, undef], ?hy0⟩) (by assumption) ?rest0
  case hy0 =>
    intro w hSw
    (try dsimp only at hSw)
    go_simp
    (try with_reducible rfl)
  case rest0 =>
    try simp only [Act.put, List.getElem_toArray, List.getElem_cons_succ, List.getElem_cons_zero, List.setIfInBounds_toArray, List.set_cons_zero, List.set_cons_succ]
    refine' wpAnyH_take (i := 1) (oi := _) (v := _) rfl (by kernel_rfl) (by kernel_rfl) (by kernel_rfl) (fun _ _ _ h => h) (Or.inl ⟨by simp [Region.wanted, yielded, undef], ?hy1⟩) (by assumption) ?rest1
    case hy1 =>
      intro w hSw
      (try dsimp only at hSw)
      go_simp
      (try with_reducible rfl)
    case rest1 =>
      try simp only [Act.put, List.getElem_toArray, List.getElem_cons_succ, List.getElem_cons_zero, List.setIfInBounds_toArray, List.set_cons_zero, List.set_cons_succ]
      refine' wpAnyH_take (i := 2) (oi := _) (v := _) rfl (by kernel_rfl) (by kernel_rfl) (by kernel_rfl) (fun _ _ _ h => h) (Or.inl ⟨by simp [Region.wanted, yielded, undef], ?hy2⟩) (by assumption) ?rest2
      case hy2 =>
        intro w hSw
        (try dsimp only at hSw)
        go_simp
        (try with_reducible rfl)
      case rest2 =>
        try simp only [Act.put, List.getElem_toArray, List.getElem_cons_succ, List.getElem_cons_zero, List.setIfInBounds_toArray, List.set_cons_zero, List.set_cons_succ]
        refine' wpAnyH_take (i := 5) (oi := _) (v := _) rfl (by kernel_rfl) (by kernel_rfl) (by kernel_rfl) (fun _ _ _ h => h) (Or.inl ⟨by simp [Region.wanted, yielded, undef], ?hy5⟩) (by assumption) ?rest5
        case hy5 =>
          intro w hSw
          (try dsimp only at hSw)
          go_simp
          (try with_reducible rfl)
        case rest5 =>
          try simp only [Act.put, List.getElem_toArray, List.getElem_cons_succ, List.getElem_cons_zero, List.setIfInBounds_toArray, List.set_cons_zero, List.set_cons_succ]
          refine' wpAnyH_take (i := 6) (oi := _) (v := _) rfl (by kernel_rfl) (by kernel_rfl) (by kernel_rfl) (fun _ _ _ h => h) (Or.inl ⟨by simp [Region.wanted, yielded, undef], ?hy6⟩) (by assumption) ?rest6
          case hy6 =>
            intro w hSw
            (try dsimp only at hSw)
            go_simp
            (try with_reducible rfl)
          case rest6 =>
            try simp only [Act.put, List.getElem_toArray, List.getElem_cons_succ, List.getElem_cons_zero, List.setIfInBounds_toArray, List.set_cons_zero, List.set_cons_succ]
            refine wpAnyH_ready (rs := [3, 7]) (by kernel_rfl) (by simp) ?_
            refine' (fun H => ?_ : _ → _) ?_
            rotate_left 1
            · refine AllReadyH.cons (o := _) rfl (fun K hK => ?_) ?_
              · go_simp
                go_at_call 41
                refine (IA.out _).mono ?_
                rintro e' q ⟨rfl, rfl⟩
                go_wp2_with fail
                refine hK.out _ _ ?_ (fun hHeld2 => ?_)
                · exact hHeld
                clear hK K
                try simp only [Act.put, List.getElem_toArray, List.getElem_cons_succ, List.getElem_cons_zero, List.setIfInBounds_toArray, List.set_cons_zero, List.set_cons_succ]
                refine' wpAnyH_take (i := 4) (oi := _) (v := _) rfl (by kernel_rfl) (by kernel_rfl) (by kernel_rfl) (fun _ _ _ h => h) (Or.inl ⟨by simp [Region.wanted, yielded, undef], ?hz4⟩) (by assumption) ?resz4
                case hz4 =>
                  intro w hSw
                  (try dsimp only at hSw)
                  go_simp
                  (try with_reducible rfl)
                case resz4 =>
                  try simp only [Act.put, List.getElem_toArray, List.getElem_cons_succ, List.getElem_cons_zero, List.setIfInBounds_toArray, List.set_cons_zero, List.set_cons_succ]
                  refine wpAnyH_ready (rs := [7]) (by kernel_rfl) (by simp) ?_
                  refine AllReadyH.cons (o := _) rfl (fun K hK => ?_) AllReadyH.nil
                  go_simp
                  refine hK.out _ _ ?_ (fun hHeld2 => ?_)
                  · exact FB32.wv _ hHeld
                  clear hK K
                  try simp only [Act.put, List.getElem_toArray, List.getElem_cons_succ, List.getElem_cons_zero, List.setIfInBounds_toArray, List.set_cons_zero, List.set_cons_succ]
                  exact H
              · refine AllReadyH.cons (o := _) rfl (fun K hK => ?_) AllReadyH.nil
                go_simp
                refine hK.out _ _ ?_ (fun hHeld2 => ?_)
                · exact FB32.wv _ hHeld
                clear hK K
                try simp only [Act.put, List.getElem_toArray, List.getElem_cons_succ, List.getElem_cons_zero, List.setIfInBounds_toArray, List.set_cons_zero, List.set_cons_succ]
                refine wpAnyH_ready (rs := [3]) (by kernel_rfl) (by simp) ?_
                refine AllReadyH.cons (o := _) rfl (fun K hK => ?_) AllReadyH.nil
                go_simp
                go_at_call 41
                refine (IA.out _).mono ?_
                rintro e' q ⟨rfl, rfl⟩
                go_wp2_with fail
                refine hK.out _ _ ?_ (fun hHeld2 => ?_)
                · exact FB32.wv _ hHeld
                clear hK K
                try simp only [Act.put, List.getElem_toArray, List.getElem_cons_succ, List.getElem_cons_zero, List.setIfInBounds_toArray, List.set_cons_zero, List.set_cons_succ]
                refine' wpAnyH_take (i := 4) (oi := _) (v := _) rfl (by kernel_rfl) (by kernel_rfl) (by kernel_rfl) (fun _ _ _ h => h) (Or.inl ⟨by simp [Region.wanted, yielded, undef], ?hz4⟩) (by assumption) ?resz4
                case hz4 =>
                  intro w hSw
                  (try dsimp only at hSw)
                  go_simp
                  (try with_reducible rfl)
                case resz4 =>
                  try simp only [Act.put, List.getElem_toArray, List.getElem_cons_succ, List.getElem_cons_zero, List.setIfInBounds_toArray, List.set_cons_zero, List.set_cons_succ]
                  exact H
            · have hHeld := FB32.wv nA hHeld
              refine wpAnyH_ready (rs := [8]) (by kernel_rfl) (by simp) ?_
              refine AllReadyH.cons (o := _) rfl (fun K hK => ?_) AllReadyH.nil
              go_simp
              refine hK.out _ _ ?_ (fun hHeld2 => ?_)
              · exact hHeld
              clear hK K
              try simp only [Act.put, List.getElem_toArray, List.getElem_cons_succ, List.getElem_cons_zero, List.setIfInBounds_toArray, List.set_cons_zero, List.set_cons_succ]
              refine' wpAnyH_take (i := 9) (oi := _) (v := _) rfl (by kernel_rfl) (by kernel_rfl) (by kernel_rfl) (fun _ _ _ h => h) (Or.inl ⟨by simp [Region.wanted, yielded, undef], ?hy9⟩) (by assumption) ?rest9
              case hy9 =>
                intro w hSw
                (try dsimp only at hSw)
                go_simp
                (try with_reducible rfl)
              case rest9 =>
                try simp only [Act.put, List.getElem_toArray, List.getElem_cons_succ, List.getElem_cons_zero, List.setIfInBounds_toArray, List.set_cons_zero, List.set_cons_succ]
                refine wpAnyH_ready (rs := [10]) (by kernel_rfl) (by simp) ?_
                refine AllReadyH.cons (o := _) rfl (fun K hK => ?_) AllReadyH.nil
                go_simp
                go_at_call 40
                refine (LA.out _ _).mono ?_
                rintro e' q10 ⟨rfl, hb⟩
                have hs := FB32.step (w := u1) hHeld hb
                clear hb
                go_wp2_with fail
                refine hK.out _ _ ?_ (fun hHeld2 => ?_)
                · exact hs
                clear hK K hHeld2
                try simp only [Act.put, List.getElem_toArray, List.getElem_cons_succ, List.getElem_cons_zero, List.setIfInBounds_toArray, List.set_cons_zero, List.set_cons_succ]
                have hHeld := hs
                clear hs
                refine' wpAnyH_take (i := 11) (oi := _) (v := _) rfl (by kernel_rfl) (by kernel_rfl) (by kernel_rfl) (fun _ _ _ h => h) (Or.inl ⟨by simp [Region.wanted, yielded, undef], ?hy11⟩) (by assumption) ?rest11
                case hy11 =>
                  intro w hSw
                  (try dsimp only at hSw)
                  go_simp
                  (try with_reducible rfl)
                case rest11 =>
                  try simp only [Act.put, List.getElem_toArray, List.getElem_cons_succ, List.getElem_cons_zero, List.setIfInBounds_toArray, List.set_cons_zero, List.set_cons_succ]
                  refine' wpAnyH_take (i := 12) (oi := _) (v := _) rfl (by kernel_rfl) (by kernel_rfl) (by kernel_rfl) (fun _ _ _ h => h) (Or.inl ⟨by simp [Region.wanted, yielded, undef], ?hy12⟩) (by assumption) ?rest12
                  case hy12 =>
                    intro w hSw
                    (try dsimp only at hSw)
                    go_simp
                    (try with_reducible rfl)
                  case rest12 =>
                    try simp only [Act.put, List.getElem_toArray, List.getElem_cons_succ, List.getElem_cons_zero, List.setIfInBounds_toArray, List.set_cons_zero, List.set_cons_succ]
                    refine' wpAnyH_take (i := 13) (oi := _) (v := _) rfl (by kernel_rfl) (by kernel_rfl) (by kernel_rfl) (fun _ _ _ h => h) (Or.inl ⟨by simp [Region.wanted, yielded, undef], ?hy13⟩) (by assumption) ?rest13
                    case hy13 =>
                      intro w hSw
                      (try dsimp only at hSw)
                      go_simp
                      (try with_reducible rfl)
                    case rest13 =>
                      try simp only [Act.put, List.getElem_toArray, List.getElem_cons_succ, List.getElem_cons_zero, List.setIfInBounds_toArray, List.set_cons_zero, List.set_cons_succ]
                      refine' wpAnyH_take (i := 14) (oi := _) (v := _) rfl (by kernel_rfl) (by kernel_rfl) (by kernel_rfl) (fun _ _ _ h => h) (Or.inl ⟨by simp [Region.wanted, yielded, undef], ?hy14⟩) (by assumption) ?rest14
                      case hy14 =>
                        intro w hSw
                        (try dsimp only at hSw)
                        go_simp
                        (try with_reducible rfl)
                      case rest14 =>
                        try simp only [Act.put, List.getElem_toArray, List.getElem_cons_succ, List.getElem_cons_zero, List.setIfInBounds_toArray, List.set_cons_zero, List.set_cons_succ]
                        refine' wpAnyH_take (i := 17) (oi := _) (v := _) rfl (by kernel_rfl) (by kernel_rfl) (by kernel_rfl) (fun _ _ _ h => h) (Or.inl ⟨by simp [Region.wanted, yielded, undef], ?hy17⟩) (by assumption) ?rest17
                        case hy17 =>
                          intro w hSw
                          (try dsimp only at hSw)
                          go_simp
                          (try with_reducible rfl)
                        case rest17 =>
                          try simp only [Act.put, List.getElem_toArray, List.getElem_cons_succ, List.getElem_cons_zero, List.setIfInBounds_toArray, List.set_cons_zero, List.set_cons_succ]
                          refine' wpAnyH_take (i := 18) (oi := _) (v := _) rfl (by kernel_rfl) (by kernel_rfl) (by kernel_rfl) (fun _ _ _ h => h) (Or.inl ⟨by simp [Region.wanted, yielded, undef], ?hy18⟩) (by assumption) ?rest18
                          case hy18 =>
                            intro w hSw
                            (try dsimp only at hSw)
                            go_simp
                            (try with_reducible rfl)
                          case rest18 =>
                            try simp only [Act.put, List.getElem_toArray, List.getElem_cons_succ, List.getElem_cons_zero, List.setIfInBounds_toArray, List.set_cons_zero, List.set_cons_succ]
                            refine wpAnyH_ready (rs := [15, 19]) (by kernel_rfl) (by simp) ?_
                            refine' (fun H => ?_ : _ → _) ?_
                            rotate_left 1
                            · refine AllReadyH.cons (o := _) rfl (fun K hK => ?_) ?_
                              · go_simp
                                go_at_call 43
                                refine (IM.out _).mono ?_
                                rintro e' q ⟨rfl, rfl⟩
                                go_wp2_with fail
                                refine hK.out _ _ ?_ (fun hHeld2 => ?_)
                                · exact hHeld
                                clear hK K
                                try simp only [Act.put, List.getElem_toArray, List.getElem_cons_succ, List.getElem_cons_zero, List.setIfInBounds_toArray, List.set_cons_zero, List.set_cons_succ]
                                refine' wpAnyH_take (i := 16) (oi := _) (v := _) rfl (by kernel_rfl) (by kernel_rfl) (by kernel_rfl) (fun _ _ _ h => h) (Or.inl ⟨by simp [Region.wanted, yielded, undef], ?hz16⟩) (by assumption) ?resz16
                                case hz16 =>
                                  intro w hSw
                                  (try dsimp only at hSw)
                                  go_simp
                                  (try with_reducible rfl)
                                case resz16 =>
                                  try simp only [Act.put, List.getElem_toArray, List.getElem_cons_succ, List.getElem_cons_zero, List.setIfInBounds_toArray, List.set_cons_zero, List.set_cons_succ]
                                  refine wpAnyH_ready (rs := [19]) (by kernel_rfl) (by simp) ?_
                                  refine AllReadyH.cons (o := _) rfl (fun K hK => ?_) AllReadyH.nil
                                  go_simp
                                  refine hK.out _ _ ?_ (fun hHeld2 => ?_)
                                  · exact FB32.wv _ hHeld
                                  clear hK K
                                  try simp only [Act.put, List.getElem_toArray, List.getElem_cons_succ, List.getElem_cons_zero, List.setIfInBounds_toArray, List.set_cons_zero, List.set_cons_succ]
                                  exact H
                              · refine AllReadyH.cons (o := _) rfl (fun K hK => ?_) AllReadyH.nil
                                go_simp
                                refine hK.out _ _ ?_ (fun hHeld2 => ?_)
                                · exact FB32.wv _ hHeld
                                clear hK K
                                try simp only [Act.put, List.getElem_toArray, List.getElem_cons_succ, List.getElem_cons_zero, List.setIfInBounds_toArray, List.set_cons_zero, List.set_cons_succ]
                                refine wpAnyH_ready (rs := [15]) (by kernel_rfl) (by simp) ?_
                                refine AllReadyH.cons (o := _) rfl (fun K hK => ?_) AllReadyH.nil
                                go_simp
                                go_at_call 43
                                refine (IM.out _).mono ?_
                                rintro e' q ⟨rfl, rfl⟩
                                go_wp2_with fail
                                refine hK.out _ _ ?_ (fun hHeld2 => ?_)
                                · exact FB32.wv _ hHeld
                                clear hK K
                                try simp only [Act.put, List.getElem_toArray, List.getElem_cons_succ, List.getElem_cons_zero, List.setIfInBounds_toArray, List.set_cons_zero, List.set_cons_succ]
                                refine' wpAnyH_take (i := 16) (oi := _) (v := _) rfl (by kernel_rfl) (by kernel_rfl) (by kernel_rfl) (fun _ _ _ h => h) (Or.inl ⟨by simp [Region.wanted, yielded, undef], ?hz16⟩) (by assumption) ?resz16
                                case hz16 =>
                                  intro w hSw
                                  (try dsimp only at hSw)
                                  go_simp
                                  (try with_reducible rfl)
                                case resz16 =>
                                  try simp only [Act.put, List.getElem_toArray, List.getElem_cons_succ, List.getElem_cons_zero, List.setIfInBounds_toArray, List.set_cons_zero, List.set_cons_succ]
                                  exact H
                            · have hHeld := FB32.wv nM hHeld
                              refine wpAnyH_ready (rs := [20]) (by kernel_rfl) (by simp) ?_
                              refine AllReadyH.cons (o := _) rfl (fun K hK => ?_) AllReadyH.nil
                              go_simp
                              refine hK.out _ _ ?_ (fun hHeld2 => ?_)
                              · exact hHeld
                              clear hK K
                              try simp only [Act.put, List.getElem_toArray, List.getElem_cons_succ, List.getElem_cons_zero, List.setIfInBounds_toArray, List.set_cons_zero, List.set_cons_succ]
                              refine' wpAnyH_take (i := 21) (oi := _) (v := _) rfl (by kernel_rfl) (by kernel_rfl) (by kernel_rfl) (fun _ _ _ h => h) (Or.inl ⟨by simp [Region.wanted, yielded, undef], ?hy21⟩) (by assumption) ?rest21
                              case hy21 =>
                                intro w hSw
                                (try dsimp only at hSw)
                                go_simp
                                (try with_reducible rfl)
                              case rest21 =>
                                try simp only [Act.put, List.getElem_toArray, List.getElem_cons_succ, List.getElem_cons_zero, List.setIfInBounds_toArray, List.set_cons_zero, List.set_cons_succ]
                                refine wpAnyH_ready (rs := [22]) (by kernel_rfl) (by simp) ?_
                                refine AllReadyH.cons (o := _) rfl (fun K hK => ?_) AllReadyH.nil
                                go_simp
                                go_at_call 40
                                refine (LM.out _ _).mono ?_
                                rintro e' q22 ⟨rfl, hb⟩
                                have hs := FB32.step (w := u1) hHeld hb
                                clear hb
                                go_wp2_with fail
                                refine hK.out _ _ ?_ (fun hHeld2 => ?_)
                                · exact hs
                                clear hK K hHeld2
                                try simp only [Act.put, List.getElem_toArray, List.getElem_cons_succ, List.getElem_cons_zero, List.setIfInBounds_toArray, List.set_cons_zero, List.set_cons_succ]
                                have hHeld := hs
                                clear hs
                                refine' wpAnyH_take (i := 23) (oi := _) (v := _) rfl (by kernel_rfl) (by kernel_rfl) (by kernel_rfl) (fun _ _ _ h => h) (Or.inl ⟨by simp [Region.wanted, yielded, undef], ?hy23⟩) (by assumption) ?rest23
                                case hy23 =>
                                  intro w hSw
                                  (try dsimp only at hSw)
                                  go_simp
                                  (try with_reducible rfl)
                                case rest23 =>
                                  try simp only [Act.put, List.getElem_toArray, List.getElem_cons_succ, List.getElem_cons_zero, List.setIfInBounds_toArray, List.set_cons_zero, List.set_cons_succ]
                                  refine' wpAnyH_take (i := 24) (oi := _) (v := _) rfl (by kernel_rfl) (by kernel_rfl) (by kernel_rfl) (fun _ _ _ h => h) (Or.inl ⟨by simp [Region.wanted, yielded, undef], ?hy24⟩) (by assumption) ?rest24
                                  case hy24 =>
                                    intro w hSw
                                    (try dsimp only at hSw)
                                    go_simp
                                    (try with_reducible rfl)
                                  case rest24 =>
                                    try simp only [Act.put, List.getElem_toArray, List.getElem_cons_succ, List.getElem_cons_zero, List.setIfInBounds_toArray, List.set_cons_zero, List.set_cons_succ]
                                    refine' wpAnyH_take (i := 25) (oi := _) (v := _) rfl (by kernel_rfl) (by kernel_rfl) (by kernel_rfl) (fun _ _ _ h => h) (Or.inl ⟨by simp [Region.wanted, yielded, undef], ?hy25⟩) (by assumption) ?rest25
                                    case hy25 =>
                                      intro w hSw
                                      (try dsimp only at hSw)
                                      go_simp
                                      (try with_reducible rfl)
                                    case rest25 =>
                                      try simp only [Act.put, List.getElem_toArray, List.getElem_cons_succ, List.getElem_cons_zero, List.setIfInBounds_toArray, List.set_cons_zero, List.set_cons_succ]
                                      refine' wpAnyH_take (i := 26) (oi := _) (v := _) rfl (by kernel_rfl) (by kernel_rfl) (by kernel_rfl) (fun _ _ _ h => h) (Or.inl ⟨by simp [Region.wanted, yielded, undef], ?hy26⟩) (by assumption) ?rest26
                                      case hy26 =>
                                        intro w hSw
                                        (try dsimp only at hSw)
                                        go_simp
                                        (try with_reducible rfl)
                                      case rest26 =>
                                        try simp only [Act.put, List.getElem_toArray, List.getElem_cons_succ, List.getElem_cons_zero, List.setIfInBounds_toArray, List.set_cons_zero, List.set_cons_succ]
                                        refine' wpAnyH_take (i := 27) (oi := _) (v := _) rfl (by kernel_rfl) (by kernel_rfl) (by kernel_rfl) (fun _ _ _ h => h) (Or.inl ⟨by simp [Region.wanted, yielded, undef], ?hy27⟩) (by assumption) ?rest27
                                        case hy27 =>
                                          intro w hSw
                                          (try dsimp only at hSw)
                                          go_simp
                                          (try with_reducible rfl)
                                        case rest27 =>
                                          try simp only [Act.put, List.getElem_toArray, List.getElem_cons_succ, List.getElem_cons_zero, List.setIfInBounds_toArray, List.set_cons_zero, List.set_cons_succ]
                                          refine' wpAnyH_take (i := 30) (oi := _) (v := _) rfl (by kernel_rfl) (by kernel_rfl) (by kernel_rfl) (fun _ _ _ h => h) (Or.inl ⟨by simp [Region.wanted, yielded, undef], ?hy30⟩) (by assumption) ?rest30
                                          case hy30 =>
                                            intro w hSw
                                            (try dsimp only at hSw)
                                            go_simp
                                            (try with_reducible rfl)
                                          case rest30 =>
                                            try simp only [Act.put, List.getElem_toArray, List.getElem_cons_succ, List.getElem_cons_zero, List.setIfInBounds_toArray, List.set_cons_zero, List.set_cons_succ]
                                            refine' wpAnyH_take (i := 31) (oi := _) (v := _) rfl (by kernel_rfl) (by kernel_rfl) (by kernel_rfl) (fun _ _ _ h => h) (Or.inl ⟨by simp [Region.wanted, yielded, undef], ?hy31⟩) (by assumption) ?rest31
                                            case hy31 =>
                                              intro w hSw
                                              (try dsimp only at hSw)
                                              go_simp
                                              (try with_reducible rfl)
                                            case rest31 =>
                                              try simp only [Act.put, List.getElem_toArray, List.getElem_cons_succ, List.getElem_cons_zero, List.setIfInBounds_toArray, List.set_cons_zero, List.set_cons_succ]
                                              refine wpAnyH_ready (rs := [28, 32]) (by kernel_rfl) (by simp) ?_
                                              refine' (fun H => ?_ : _ → _) ?_
                                              rotate_left 1
                                              · refine AllReadyH.cons (o := _) rfl (fun K hK => ?_) ?_
                                                · go_simp
                                                  go_at_call 44
                                                  refine (IQ.out _).mono ?_
                                                  rintro e' q ⟨rfl, rfl⟩
                                                  go_wp2_with fail
                                                  refine hK.out _ _ ?_ (fun hHeld2 => ?_)
                                                  · exact hHeld
                                                  clear hK K
                                                  try simp only [Act.put, List.getElem_toArray, List.getElem_cons_succ, List.getElem_cons_zero, List.setIfInBounds_toArray, List.set_cons_zero, List.set_cons_succ]
                                                  refine' wpAnyH_take (i := 29) (oi := _) (v := _) rfl (by kernel_rfl) (by kernel_rfl) (by kernel_rfl) (fun _ _ _ h => h) (Or.inl ⟨by simp [Region.wanted, yielded, undef], ?hz29⟩) (by assumption) ?resz29
                                                  case hz29 =>
                                                    intro w hSw
                                                    (try dsimp only at hSw)
                                                    go_simp
                                                    (try with_reducible rfl)
                                                  case resz29 =>
                                                    try simp only [Act.put, List.getElem_toArray, List.getElem_cons_succ, List.getElem_cons_zero, List.setIfInBounds_toArray, List.set_cons_zero, List.set_cons_succ]
                                                    refine wpAnyH_ready (rs := [32]) (by kernel_rfl) (by simp) ?_
                                                    refine AllReadyH.cons (o := _) rfl (fun K hK => ?_) AllReadyH.nil
                                                    go_simp
                                                    refine hK.out _ _ ?_ (fun hHeld2 => ?_)
                                                    · exact FB32.wv _ hHeld
                                                    clear hK K
                                                    try simp only [Act.put, List.getElem_toArray, List.getElem_cons_succ, List.getElem_cons_zero, List.setIfInBounds_toArray, List.set_cons_zero, List.set_cons_succ]
                                                    exact H
                                                · refine AllReadyH.cons (o := _) rfl (fun K hK => ?_) AllReadyH.nil
                                                  go_simp
                                                  refine hK.out _ _ ?_ (fun hHeld2 => ?_)
                                                  · exact FB32.wv _ hHeld
                                                  clear hK K
                                                  try simp only [Act.put, List.getElem_toArray, List.getElem_cons_succ, List.getElem_cons_zero, List.setIfInBounds_toArray, List.set_cons_zero, List.set_cons_succ]
                                                  refine wpAnyH_ready (rs := [28]) (by kernel_rfl) (by simp) ?_
                                                  refine AllReadyH.cons (o := _) rfl (fun K hK => ?_) AllReadyH.nil
                                                  go_simp
                                                  go_at_call 44
                                                  refine (IQ.out _).mono ?_
                                                  rintro e' q ⟨rfl, rfl⟩
                                                  go_wp2_with fail
                                                  refine hK.out _ _ ?_ (fun hHeld2 => ?_)
                                                  · exact FB32.wv _ hHeld
                                                  clear hK K
                                                  try simp only [Act.put, List.getElem_toArray, List.getElem_cons_succ, List.getElem_cons_zero, List.setIfInBounds_toArray, List.set_cons_zero, List.set_cons_succ]
                                                  refine' wpAnyH_take (i := 29) (oi := _) (v := _) rfl (by kernel_rfl) (by kernel_rfl) (by kernel_rfl) (fun _ _ _ h => h) (Or.inl ⟨by simp [Region.wanted, yielded, undef], ?hz29⟩) (by assumption) ?resz29
                                                  case hz29 =>
                                                    intro w hSw
                                                    (try dsimp only at hSw)
                                                    go_simp
                                                    (try with_reducible rfl)
                                                  case resz29 =>
                                                    try simp only [Act.put, List.getElem_toArray, List.getElem_cons_succ, List.getElem_cons_zero, List.setIfInBounds_toArray, List.set_cons_zero, List.set_cons_succ]
                                                    exact H
                                              · have hHeld := FB32.wv nQ hHeld
                                                refine wpAnyH_ready (rs := [33]) (by kernel_rfl) (by simp) ?_
                                                refine AllReadyH.cons (o := _) rfl (fun K hK => ?_) AllReadyH.nil
                                                go_simp
                                                refine hK.out _ _ ?_ (fun hHeld2 => ?_)
                                                · exact hHeld
                                                clear hK K
                                                try simp only [Act.put, List.getElem_toArray, List.getElem_cons_succ, List.getElem_cons_zero, List.setIfInBounds_toArray, List.set_cons_zero, List.set_cons_succ]
                                                refine' wpAnyH_take (i := 34) (oi := _) (v := _) rfl (by kernel_rfl) (by kernel_rfl) (by kernel_rfl) (fun _ _ _ h => h) (Or.inl ⟨by simp [Region.wanted, yielded, undef], ?hy34⟩) (by assumption) ?rest34
                                                case hy34 =>
                                                  intro w hSw
                                                  (try dsimp only at hSw)
                                                  go_simp
                                                  (try with_reducible rfl)
                                                case rest34 =>
                                                  try simp only [Act.put, List.getElem_toArray, List.getElem_cons_succ, List.getElem_cons_zero, List.setIfInBounds_toArray, List.set_cons_zero, List.set_cons_succ]
                                                  refine wpAnyH_ready (rs := [35]) (by kernel_rfl) (by simp) ?_
                                                  refine AllReadyH.cons (o := _) rfl (fun K hK => ?_) AllReadyH.nil
                                                  go_simp
                                                  go_at_call 40
                                                  refine (LQ.out _ _).mono ?_
                                                  rintro e' q35 ⟨rfl, hb⟩
                                                  have hs := FB32.step (w := u1) hHeld hb
                                                  clear hb
                                                  go_wp2_with fail
                                                  refine hK.out _ _ ?_ (fun hHeld2 => ?_)
                                                  · exact hs
                                                  clear hK K hHeld2
                                                  try simp only [Act.put, List.getElem_toArray, List.getElem_cons_succ, List.getElem_cons_zero, List.setIfInBounds_toArray, List.set_cons_zero, List.set_cons_succ]
                                                  have hHeld := hs
                                                  clear hs
                                                  refine' wpAnyH_take (i := 36) (oi := _) (v := _) rfl (by kernel_rfl) (by kernel_rfl) (by kernel_rfl) (fun _ _ _ h => h) (Or.inl ⟨by simp [Region.wanted, yielded, undef], ?hy36⟩) (by assumption) ?rest36
                                                  case hy36 =>
                                                    intro w hSw
                                                    (try dsimp only at hSw)
                                                    go_simp
                                                    (try with_reducible rfl)
                                                  case rest36 =>
                                                    try simp only [Act.put, List.getElem_toArray, List.getElem_cons_succ, List.getElem_cons_zero, List.setIfInBounds_toArray, List.set_cons_zero, List.set_cons_succ]
                                                    refine' wpAnyH_take (i := 37) (oi := _) (v := _) rfl (by kernel_rfl) (by kernel_rfl) (by kernel_rfl) (fun _ _ _ h => h) (Or.inl ⟨by simp [Region.wanted, yielded, undef], ?hy37⟩) (by assumption) ?rest37
                                                    case hy37 =>
                                                      intro w hSw
                                                      (try dsimp only at hSw)
                                                      go_simp
                                                      (try with_reducible rfl)
                                                    case rest37 =>
                                                      try simp only [Act.put, List.getElem_toArray, List.getElem_cons_succ, List.getElem_cons_zero, List.setIfInBounds_toArray, List.set_cons_zero, List.set_cons_succ]
                                                      refine' wpAnyH_take (i := 38) (oi := _) (v := _) rfl (by kernel_rfl) (by kernel_rfl) (by kernel_rfl) (fun _ _ _ h => h) (Or.inl ⟨by simp [Region.wanted, yielded, undef], ?hy38⟩) (by assumption) ?rest38
                                                      case hy38 =>
                                                        intro w hSw
                                                        (try dsimp only at hSw)
                                                        go_simp
                                                        (try with_reducible rfl)
                                                      case rest38 =>
                                                        try simp only [Act.put, List.getElem_toArray, List.getElem_cons_succ, List.getElem_cons_zero, List.setIfInBounds_toArray, List.set_cons_zero, List.set_cons_succ]
                                                        refine' wpAnyH_take (i := 39) (oi := _) (v := _) rfl (by kernel_rfl) (by kernel_rfl) (by kernel_rfl) (fun _ _ _ h => h) (Or.inl ⟨by simp [Region.wanted, yielded, undef], ?hy39⟩) (by assumption) ?rest39
                                                        case hy39 =>
                                                          intro w hSw
                                                          (try dsimp only at hSw)
                                                          go_simp
                                                          (try with_reducible rfl)
                                                        case rest39 =>
                                                          try simp only [Act.put, List.getElem_toArray, List.getElem_cons_succ, List.getElem_cons_zero, List.setIfInBounds_toArray, List.set_cons_zero, List.set_cons_succ]
                                                          refine' wpAnyH_take (i := 41) (oi := _) (v := _) rfl (by kernel_rfl) (by kernel_rfl) (by kernel_rfl) (fun _ _ _ h => h) (Or.inl ⟨by simp [Region.wanted, yielded, undef], ?hy41⟩) (by assumption) ?rest41
                                                          case hy41 =>
                                                            intro w hSw
                                                            (try dsimp only at hSw)
                                                            go_simp
                                                            (try with_reducible rfl)
                                                          case rest41 =>
                                                            try simp only [Act.put, List.getElem_toArray, List.getElem_cons_succ, List.getElem_cons_zero, List.setIfInBounds_toArray, List.set_cons_zero, List.set_cons_succ]
                                                            refine' wpAnyH_take (i := 42) (oi := _) (v := _) rfl (by kernel_rfl) (by kernel_rfl) (by kernel_rfl) (fun _ _ _ h => h) (Or.inl ⟨by simp [Region.wanted, yielded, undef], ?hy42⟩) (by assumption) ?rest42
                                                            case hy42 =>
                                                              intro w hSw
                                                              (try dsimp only at hSw)
                                                              go_simp
                                                              (try with_reducible rfl)
                                                            case rest42 =>
                                                              try simp only [Act.put, List.getElem_toArray, List.getElem_cons_succ, List.getElem_cons_zero, List.setIfInBounds_toArray, List.set_cons_zero, List.set_cons_succ]
                                                              refine' wpAnyH_take (i := 43) (oi := _) (v := _) rfl (by kernel_rfl) (by kernel_rfl) (by kernel_rfl) (fun _ _ _ h => h) (Or.inl ⟨by simp [Region.wanted, yielded, undef], ?hy43⟩) (by assumption) ?rest43
                                                              case hy43 =>
                                                                intro w hSw
                                                                (try dsimp only at hSw)
                                                                go_simp
                                                                (try with_reducible rfl)
                                                              case rest43 =>
                                                                try simp only [Act.put, List.getElem_toArray, List.getElem_cons_succ, List.getElem_cons_zero, List.setIfInBounds_toArray, List.set_cons_zero, List.set_cons_succ]
                                                                refine wpAnyH_ready (rs := [40]) (by kernel_rfl) (by simp) ?_
                                                                refine AllReadyH.cons (o := _) rfl (fun K hK => ?_) AllReadyH.nil
                                                                go_simp
                                                                go_at_call 45
                                                                refine (IE.out _).mono ?_
                                                                rintro e' q ⟨rfl, rfl⟩
                                                                go_wp2_with fail
                                                                refine hK.out _ _ ?_ (fun hHeld2 => ?_)
                                                                · exact hHeld
                                                                clear hK K
                                                                try simp only [Act.put, List.getElem_toArray, List.getElem_cons_succ, List.getElem_cons_zero, List.setIfInBounds_toArray, List.set_cons_zero, List.set_cons_succ]
                                                                refine' wpAnyH_take (i := 44) (oi := _) (v := _) rfl (by kernel_rfl) (by kernel_rfl) (by kernel_rfl) (fun _ _ _ h => h) (Or.inl ⟨by simp [Region.wanted, yielded, undef], ?hy44⟩) (by assumption) ?rest44
                                                                case hy44 =>
                                                                  intro w hSw
                                                                  (try dsimp only at hSw)
                                                                  go_simp
                                                                  (try with_reducible rfl)
                                                                case rest44 =>
                                                                  try simp only [Act.put, List.getElem_toArray, List.getElem_cons_succ, List.getElem_cons_zero, List.setIfInBounds_toArray, List.set_cons_zero, List.set_cons_succ]
                                                                  refine' wpAnyH_take (i := 45) (oi := _) (v := _) rfl (by kernel_rfl) (by kernel_rfl) (by kernel_rfl) (fun _ _ _ h => h) (Or.inl ⟨by simp [Region.wanted, yielded, undef], ?hy45⟩) (by assumption) ?rest45
                                                                  case hy45 =>
                                                                    intro w hSw
                                                                    (try dsimp only at hSw)
                                                                    go_simp
                                                                    (try with_reducible rfl)
                                                                  case rest45 =>
                                                                    try simp only [Act.put, List.getElem_toArray, List.getElem_cons_succ, List.getElem_cons_zero, List.setIfInBounds_toArray, List.set_cons_zero, List.set_cons_succ]
                                                                    refine' wpAnyH_take (i := 46) (oi := _) (v := _) rfl (by kernel_rfl) (by kernel_rfl) (by kernel_rfl) (fun _ _ _ h => h) (Or.inl ⟨by simp [Region.wanted, yielded, undef], ?hy46⟩) (by assumption) ?rest46
                                                                    case hy46 =>
                                                                      intro w hSw
                                                                      (try dsimp only at hSw)
                                                                      go_simp
                                                                      (try with_reducible rfl)
                                                                    case rest46 =>
                                                                      try simp only [Act.put, List.getElem_toArray, List.getElem_cons_succ, List.getElem_cons_zero, List.setIfInBounds_toArray, List.set_cons_zero, List.set_cons_succ]
                                                                      refine' wpAnyH_take (i := 47) (oi := _) (v := _) rfl (by kernel_rfl) (by kernel_rfl) (by kernel_rfl) (fun _ _ _ h => h) (Or.inl ⟨by simp [Region.wanted, yielded, undef], ?hy47⟩) (by assumption) ?rest47
                                                                      case hy47 =>
                                                                        intro w hSw
                                                                        (try dsimp only at hSw)
                                                                        go_simp
                                                                        (try with_reducible rfl)
                                                                      case rest47 =>
                                                                        try simp only [Act.put, List.getElem_toArray, List.getElem_cons_succ, List.getElem_cons_zero, List.setIfInBounds_toArray, List.set_cons_zero, List.set_cons_succ]
                                                                        refine' wpAnyH_take (i := 48) (oi := _) (v := _) rfl (by kernel_rfl) (by kernel_rfl) (by kernel_rfl) (fun _ _ _ h => h) (Or.inl ⟨by simp [Region.wanted, yielded, undef], ?hy48⟩) (by assumption) ?rest48
                                                                        case hy48 =>
                                                                          intro w hSw
                                                                          (try dsimp only at hSw)
                                                                          go_simp
                                                                          (try with_reducible rfl)
                                                                        case rest48 =>
                                                                          try simp only [Act.put, List.getElem_toArray, List.getElem_cons_succ, List.getElem_cons_zero, List.setIfInBounds_toArray, List.set_cons_zero, List.set_cons_succ]
                                                                          refine' wpAnyH_take (i := 50) (oi := _) (v := _) rfl (by kernel_rfl) (by kernel_rfl) (by kernel_rfl) (fun _ _ _ h => h) (Or.inl ⟨by simp [Region.wanted, yielded, undef], ?hy50⟩) (by assumption) ?rest50
                                                                          case hy50 =>
                                                                            intro w hSw
                                                                            (try dsimp only at hSw)
                                                                            go_simp
                                                                            (try with_reducible rfl)
                                                                          case rest50 =>
                                                                            try simp only [Act.put, List.getElem_toArray, List.getElem_cons_succ, List.getElem_cons_zero, List.setIfInBounds_toArray, List.set_cons_zero, List.set_cons_succ]
                                                                            refine' wpAnyH_take (i := 51) (oi := _) (v := _) rfl (by kernel_rfl) (by kernel_rfl) (by kernel_rfl) (fun _ _ _ h => h) (Or.inl ⟨by simp [Region.wanted, yielded, undef], ?hy51⟩) (by assumption) ?rest51
                                                                            case hy51 =>
                                                                              intro w hSw
                                                                              (try dsimp only at hSw)
                                                                              go_simp
                                                                              (try with_reducible rfl)
                                                                            case rest51 =>
                                                                              try simp only [Act.put, List.getElem_toArray, List.getElem_cons_succ, List.getElem_cons_zero, List.setIfInBounds_toArray, List.set_cons_zero, List.set_cons_succ]
                                                                              refine' wpAnyH_take (i := 52) (oi := _) (v := _) rfl (by kernel_rfl) (by kernel_rfl) (by kernel_rfl) (fun _ _ _ h => h) (Or.inl ⟨by simp [Region.wanted, yielded, undef], ?hy52⟩) (by assumption) ?rest52
                                                                              case hy52 =>
                                                                                intro w hSw
                                                                                (try dsimp only at hSw)
                                                                                go_simp
                                                                                (try with_reducible rfl)
                                                                              case rest52 =>
                                                                                try simp only [Act.put, List.getElem_toArray, List.getElem_cons_succ, List.getElem_cons_zero, List.setIfInBounds_toArray, List.set_cons_zero, List.set_cons_succ]
                                                                                refine wpAnyH_ready (rs := [49]) (by kernel_rfl) (by simp) ?_
                                                                                refine AllReadyH.cons (o := _) rfl (fun K hK => ?_) AllReadyH.nil
                                                                                go_simp
                                                                                go_at_call 46
                                                                                refine (IG.out _).mono ?_
                                                                                rintro e' q ⟨rfl, rfl⟩
                                                                                go_wp2_with fail
                                                                                refine hK.out _ _ ?_ (fun hHeld2 => ?_)
                                                                                · exact hHeld
                                                                                clear hK K
                                                                                try simp only [Act.put, List.getElem_toArray, List.getElem_cons_succ, List.getElem_cons_zero, List.setIfInBounds_toArray, List.set_cons_zero, List.set_cons_succ]
                                                                                refine' wpAnyH_take (i := 53) (oi := _) (v := _) rfl (by kernel_rfl) (by kernel_rfl) (by kernel_rfl) (fun _ _ _ h => h) (Or.inl ⟨by simp [Region.wanted, yielded, undef], ?hy53⟩) (by assumption) ?rest53
                                                                                case hy53 =>
                                                                                  intro w hSw
                                                                                  (try dsimp only at hSw)
                                                                                  go_simp
                                                                                  (try with_reducible rfl)
                                                                                case rest53 =>
                                                                                  try simp only [Act.put, List.getElem_toArray, List.getElem_cons_succ, List.getElem_cons_zero, List.setIfInBounds_toArray, List.set_cons_zero, List.set_cons_succ]
                                                                                  refine' wpAnyH_take (i := 54) (oi := _) (v := _) rfl (by kernel_rfl) (by kernel_rfl) (by kernel_rfl) (fun _ _ _ h => h) (Or.inl ⟨by simp [Region.wanted, yielded, undef], ?hy54⟩) (by assumption) ?rest54
                                                                                  case hy54 =>
                                                                                    intro w hSw
                                                                                    (try dsimp only at hSw)
                                                                                    go_simp
                                                                                    (try with_reducible rfl)
                                                                                  case rest54 =>
                                                                                    try simp only [Act.put, List.getElem_toArray, List.getElem_cons_succ, List.getElem_cons_zero, List.setIfInBounds_toArray, List.set_cons_zero, List.set_cons_succ]
                                                                                    refine' wpAnyH_take (i := 55) (oi := _) (v := _) rfl (by kernel_rfl) (by kernel_rfl) (by kernel_rfl) (fun _ _ _ h => h) (Or.inl ⟨by simp [Region.wanted, yielded, undef], ?hy55⟩) (by assumption) ?rest55
                                                                                    case hy55 =>
                                                                                      intro w hSw
                                                                                      (try dsimp only at hSw)
                                                                                      go_simp
                                                                                      (try with_reducible rfl)
                                                                                    case rest55 =>
                                                                                      try simp only [Act.put, List.getElem_toArray, List.getElem_cons_succ, List.getElem_cons_zero, List.setIfInBounds_toArray, List.set_cons_zero, List.set_cons_succ]
                                                                                      refine' wpAnyH_take (i := 56) (oi := _) (v := _) rfl (by kernel_rfl) (by kernel_rfl) (by kernel_rfl) (fun _ _ _ h => h) (Or.inl ⟨by simp [Region.wanted, yielded, undef], ?hy56⟩) (by assumption) ?rest56
                                                                                      case hy56 =>
                                                                                        intro w hSw
                                                                                        (try dsimp only at hSw)
                                                                                        go_simp
                                                                                        (try with_reducible rfl)
                                                                                      case rest56 =>
                                                                                        try simp only [Act.put, List.getElem_toArray, List.getElem_cons_succ, List.getElem_cons_zero, List.setIfInBounds_toArray, List.set_cons_zero, List.set_cons_succ]
                                                                                        refine' wpAnyH_take (i := 57) (oi := _) (v := _) rfl (by kernel_rfl) (by kernel_rfl) (by kernel_rfl) (fun _ _ _ h => h) (Or.inl ⟨by simp [Region.wanted, yielded, undef], ?hy57⟩) (by assumption) ?rest57
                                                                                        case hy57 =>
                                                                                          intro w hSw
                                                                                          (try dsimp only at hSw)
                                                                                          go_simp
                                                                                          (try with_reducible rfl)
                                                                                        case rest57 =>
                                                                                          try simp only [Act.put, List.getElem_toArray, List.getElem_cons_succ, List.getElem_cons_zero, List.setIfInBounds_toArray, List.set_cons_zero, List.set_cons_succ]
                                                                                          refine' wpAnyH_take (i := 59) (oi := _) (v := _) rfl (by kernel_rfl) (by kernel_rfl) (by kernel_rfl) (fun _ _ _ h => h) (Or.inl ⟨by simp [Region.wanted, yielded, undef], ?hy59⟩) (by assumption) ?rest59
                                                                                          case hy59 =>
                                                                                            intro w hSw
                                                                                            (try dsimp only at hSw)
                                                                                            go_simp
                                                                                            (try with_reducible rfl)
                                                                                          case rest59 =>
                                                                                            try simp only [Act.put, List.getElem_toArray, List.getElem_cons_succ, List.getElem_cons_zero, List.setIfInBounds_toArray, List.set_cons_zero, List.set_cons_succ]
                                                                                            refine' wpAnyH_take (i := 60) (oi := _) (v := _) rfl (by kernel_rfl) (by kernel_rfl) (by kernel_rfl) (fun _ _ _ h => h) (Or.inl ⟨by simp [Region.wanted, yielded, undef], ?hy60⟩) (by assumption) ?rest60
                                                                                            case hy60 =>
                                                                                              intro w hSw
                                                                                              (try dsimp only at hSw)
                                                                                              go_simp
                                                                                              (try with_reducible rfl)
                                                                                            case rest60 =>
                                                                                              try simp only [Act.put, List.getElem_toArray, List.getElem_cons_succ, List.getElem_cons_zero, List.setIfInBounds_toArray, List.set_cons_zero, List.set_cons_succ]
                                                                                              refine' wpAnyH_take (i := 61) (oi := _) (v := _) rfl (by kernel_rfl) (by kernel_rfl) (by kernel_rfl) (fun _ _ _ h => h) (Or.inl ⟨by simp [Region.wanted, yielded, undef], ?hy61⟩) (by assumption) ?rest61
                                                                                              case hy61 =>
                                                                                                intro w hSw
                                                                                                (try dsimp only at hSw)
                                                                                                go_simp
                                                                                                (try with_reducible rfl)
                                                                                              case rest61 =>
                                                                                                try simp only [Act.put, List.getElem_toArray, List.getElem_cons_succ, List.getElem_cons_zero, List.setIfInBounds_toArray, List.set_cons_zero, List.set_cons_succ]
                                                                                                refine wpAnyH_ready (rs := [58]) (by kernel_rfl) (by simp) ?_
                                                                                                refine AllReadyH.cons (o := _) rfl (fun K hK => ?_) AllReadyH.nil
                                                                                                go_simp
                                                                                                go_at_call 47
                                                                                                refine (IH.out _).mono ?_
                                                                                                rintro e' q ⟨rfl, rfl⟩
                                                                                                go_wp2_with fail
                                                                                                refine hK.out _ _ ?_ (fun hHeld2 => ?_)
                                                                                                · exact hHeld
                                                                                                clear hK K
                                                                                                try simp only [Act.put, List.getElem_toArray, List.getElem_cons_succ, List.getElem_cons_zero, List.setIfInBounds_toArray, List.set_cons_zero, List.set_cons_succ]
                                                                                                refine' wpAnyH_take (i := 62) (oi := _) (v := _) rfl (by kernel_rfl) (by kernel_rfl) (by kernel_rfl) (fun _ _ _ h => h) (Or.inl ⟨by simp [Region.wanted, yielded, undef], ?hy62⟩) (by assumption) ?rest62
                                                                                                case hy62 =>
                                                                                                  intro w hSw
                                                                                                  (try dsimp only at hSw)
                                                                                                  go_simp
                                                                                                  (try with_reducible rfl)
                                                                                                case rest62 =>
                                                                                                  try simp only [Act.put, List.getElem_toArray, List.getElem_cons_succ, List.getElem_cons_zero, List.setIfInBounds_toArray, List.set_cons_zero, List.set_cons_succ]
                                                                                                  refine' wpAnyH_take (i := 63) (oi := _) (v := _) rfl (by kernel_rfl) (by kernel_rfl) (by kernel_rfl) (fun _ _ _ h => h) (Or.inl ⟨by simp [Region.wanted, yielded, undef], ?hy63⟩) (by assumption) ?rest63
                                                                                                  case hy63 =>
                                                                                                    intro w hSw
                                                                                                    (try dsimp only at hSw)
                                                                                                    go_simp
                                                                                                    (try with_reducible rfl)
                                                                                                  case rest63 =>
                                                                                                    try simp only [Act.put, List.getElem_toArray, List.getElem_cons_succ, List.getElem_cons_zero, List.setIfInBounds_toArray, List.set_cons_zero, List.set_cons_succ]
                                                                                                    refine' wpAnyH_take (i := 64) (oi := _) (v := _) rfl (by kernel_rfl) (by kernel_rfl) (by kernel_rfl) (fun _ _ _ h => h) (Or.inl ⟨by simp [Region.wanted, yielded, undef], ?hy64⟩) (by assumption) ?rest64
                                                                                                    case hy64 =>
                                                                                                      intro w hSw
                                                                                                      (try dsimp only at hSw)
                                                                                                      go_simp
                                                                                                      (try with_reducible rfl)
                                                                                                    case rest64 =>
                                                                                                      try simp only [Act.put, List.getElem_toArray, List.getElem_cons_succ, List.getElem_cons_zero, List.setIfInBounds_toArray, List.set_cons_zero, List.set_cons_succ]
                                                                                                      refine wpAnyH_done (by kernel_rfl) ?_ _
                                                                                                      go_wp2_with fail
                                                                                                      go_ret
                                                                                                      exact ⟨rfl, below_trans' B1.out (FB32.below (by assumption))⟩
end Go.Proofs.Ytpjanmahbimhkaa.SF
