/-
  The walk of a law.
-/
import Derived.Test.YtpjanmahbimhkaaGoL2
import Derived.Test.YtpjanmahbimhkaaWrap32
import Derived.Test.YtpjanmahbimhkaaFmtB
import Derived.Test.YtpjanmahbimhkaaFrame
namespace Go.Proofs.Ytpjanmahbimhkaa.SF
open Go.ChangeShapes Go.WideShapes Go.ChangeAt Go.RowKit
set_option linter.unusedVariables false
set_option linter.unusedSimpArgs false
set_option maxRecDepth 100000 in
set_option maxHeartbeats 8000000 in
theorem go64_b (x y : Nat) (w : World) (hx : x < 18446744073709551616) (hy : y < 18446744073709551616) (h1 : eqB x y = false) (h2 : gtB x y = true) (h3 : geB x y = true) (e1 : (FloatKind.f64.format.order x y == some .eq) = false) (e2 : (FloatKind.f64.format.order x y == some .gt) = true) : Calls Try.prog 13 #[.int .u64 (x : Int), .int .u64 (y : Int)] w (LawPost w) := by
  have IA := fun w => implAdd64 x y w hx hy
  have lA := add_lt64 hx hy
  have FA := fadd_fv64 hx hy
  have LA := fun w w0 => alike_fv64 (r := add64 x y) lA rfl w w0 x y
  have IS := fun w => implSub64 x y w hx hy
  have lS := add_lt64 hx (flip_lt64 y)
  have FS := fsub_fv64 hx hy
  have LS := fun w w0 => alike_fv64 (r := add64 x (flip64 y)) lS rfl w w0 x y
  have IM := fun w => implMul64 x y w hx hy
  have lM := mul_lt64 x y
  have FM := fmul_fv64 hx hy
  have LM := fun w w0 => alike_fv64 (r := mul64 x y) lM rfl w w0 x y
  have IQ := fun w => implDiv64 x y w hx hy
  have lQ := div_lt64 x y
  have FQ := fdiv_fv64 hx hy
  have LQ := fun w w0 => alike_fv64 (r := div64 x y) lQ rfl w w0 x y
  have IE := fun w => implEq64 x y w hx hy
  have IG := fun w => implGt64 x y w hx hy
  have IH := fun w => implGe64 x y w hx hy
  rw [h1] at IE
  rw [h2] at IG
  rw [h3] at IH
  generalize isNaN64 (add64 x y) = nA at *
  generalize add64 x y = vA at *
  generalize isNaN64 (add64 x (flip64 y)) = nS at *
  generalize add64 x (flip64 y) = vS at *
  generalize isNaN64 (mul64 x y) = nM at *
  generalize mul64 x y = vM at *
  generalize isNaN64 (div64 x y) = nQ at *
  generalize div64 x y = vQ at *
  have R1 := run_from64
  have R2 := run_bits64
  have IA := Lib.hid IA
  have LA := Lib.hid LA
  have IS := Lib.hid IS
  have LS := Lib.hid LS
  have IM := Lib.hid IM
  have LM := Lib.hid LM
  have IQ := Lib.hid IQ
  have LQ := Lib.hid LQ
  have IE := Lib.hid IE
  have IG := Lib.hid IG
  have IH := Lib.hid IH
  clear hx hy h1 h2 h3 lA lS lM lQ
  have B0 := Lib.hid (Below.refl w.heap.size w)
  go_enter Try.func13, Try.ntmps13
  go_wp2_with fail
  refine (fmt64_any _).mono ?_
  rintro e u1 ⟨rfl, hb⟩
  have B1 := Lib.hid (below_trans' B0.out hb)
  clear hb
  have HD := Lib.hid (FB64.start u1)
  go_wp2_with fail
  simp only [List.append]
  refine wp_region_held_drew (S := fun w' => FB64 u1 w') (by kernel_rfl) HD.out (fun hHeld => ?_)
  refine' wpAnyH_take (i := 0) (oi := _) (v := _) rfl (by kernel_rfl) (by kernel_rfl) (by kernel_rfl) (fun _ _ _ h => h) (Or.inl ⟨by simp [Region.wanted, yielded, undef], ?hy0⟩) (by assumption) ?rest0
  case hy0 =>
    intro w hSw
    (try dsimp only at hSw)
    go_simp
    (try with_reducible rfl)
  case rest0 =>
    try simp only [Act.put, List.getElem_toArray, List.getElem_cons_succ, List.getElem_cons_zero, List.setIfInBounds_toArray, List.set_cons_zero, List.set_cons_succ]
    refine' wpAnyH_take (i := 1) (oi := _) (v := _) rfl (by kernel_rfl) (by kernel_rfl) (by kernel_rfl) (fun _ _ _ h => h) (Or.inl ⟨by simp [Region.wanted, yielded, undef], ?hy1⟩) (by assumption) ?rest1
    case hy1 =>
      intro w hSw
      (try dsimp only at hSw)
      go_simp
      (try with_reducible rfl)
    case rest1 =>
      try simp only [Act.put, List.getElem_toArray, List.getElem_cons_succ, List.getElem_cons_zero, List.setIfInBounds_toArray, List.set_cons_zero, List.set_cons_succ]
      refine' wpAnyH_take (i := 2) (oi := _) (v := _) rfl (by kernel_rfl) (by kernel_rfl) (by kernel_rfl) (fun _ _ _ h => h) (Or.inl ⟨by simp [Region.wanted, yielded, undef], ?hy2⟩) (by assumption) ?rest2
      case hy2 =>
        intro w hSw
        (try dsimp only at hSw)
        go_simp
        (try with_reducible rfl)
      case rest2 =>
        try simp only [Act.put, List.getElem_toArray, List.getElem_cons_succ, List.getElem_cons_zero, List.setIfInBounds_toArray, List.set_cons_zero, List.set_cons_succ]
        refine' wpAnyH_take (i := 4) (oi := _) (v := _) rfl (by kernel_rfl) (by kernel_rfl) (by kernel_rfl) (fun _ _ _ h => h) (Or.inl ⟨by simp [Region.wanted, yielded, undef], ?hy4⟩) (by assumption) ?rest4
        case hy4 =>
          intro w hSw
          (try dsimp only at hSw)
          go_simp
          (try with_reducible rfl)
        case rest4 =>
          try simp only [Act.put, List.getElem_toArray, List.getElem_cons_succ, List.getElem_cons_zero, List.setIfInBounds_toArray, List.set_cons_zero, List.set_cons_succ]
          refine' wpAnyH_take (i := 5) (oi := _) (v := _) rfl (by kernel_rfl) (by kernel_rfl) (by kernel_rfl) (fun _ _ _ h => h) (Or.inl ⟨by simp [Region.wanted, yielded, undef], ?hy5⟩) (by assumption) ?rest5
          case hy5 =>
            intro w hSw
            (try dsimp only at hSw)
            go_simp
            (try with_reducible rfl)
          case rest5 =>
            try simp only [Act.put, List.getElem_toArray, List.getElem_cons_succ, List.getElem_cons_zero, List.setIfInBounds_toArray, List.set_cons_zero, List.set_cons_succ]
            refine wpAnyH_ready (rs := [3, 6]) (by kernel_rfl) (by simp) ?_
            refine' (fun H => ?_ : _ → _) ?_
            rotate_left 1
            · refine AllReadyH.cons (o := _) rfl (fun K hK => ?_) ?_
              · go_simp
                go_at_call 18
                refine (IA.out _).mono ?_
                rintro e' q ⟨rfl, rfl⟩
                go_wp2_with fail
                refine hK.out _ _ ?_ (fun hHeld2 => ?_)
                · exact hHeld
                clear hK K
                try simp only [Act.put, List.getElem_toArray, List.getElem_cons_succ, List.getElem_cons_zero, List.setIfInBounds_toArray, List.set_cons_zero, List.set_cons_succ]
                refine wpAnyH_ready (rs := [6]) (by kernel_rfl) (by simp) ?_
                refine AllReadyH.cons (o := _) rfl (fun K hK => ?_) AllReadyH.nil
                go_simp
                refine hK.out _ _ ?_ (fun hHeld2 => ?_)
                · exact FB64.wv _ hHeld
                clear hK K
                try simp only [Act.put, List.getElem_toArray, List.getElem_cons_succ, List.getElem_cons_zero, List.setIfInBounds_toArray, List.set_cons_zero, List.set_cons_succ]
                exact H
              · refine AllReadyH.cons (o := _) rfl (fun K hK => ?_) AllReadyH.nil
                go_simp
                refine hK.out _ _ ?_ (fun hHeld2 => ?_)
                · exact FB64.wv _ hHeld
                clear hK K
                try simp only [Act.put, List.getElem_toArray, List.getElem_cons_succ, List.getElem_cons_zero, List.setIfInBounds_toArray, List.set_cons_zero, List.set_cons_succ]
                refine wpAnyH_ready (rs := [3]) (by kernel_rfl) (by simp) ?_
                refine AllReadyH.cons (o := _) rfl (fun K hK => ?_) AllReadyH.nil
                go_simp
                go_at_call 18
                refine (IA.out _).mono ?_
                rintro e' q ⟨rfl, rfl⟩
                go_wp2_with fail
                refine hK.out _ _ ?_ (fun hHeld2 => ?_)
                · exact FB64.wv _ hHeld
                clear hK K
                try simp only [Act.put, List.getElem_toArray, List.getElem_cons_succ, List.getElem_cons_zero, List.setIfInBounds_toArray, List.set_cons_zero, List.set_cons_succ]
                exact H
            · have hHeld := FB64.wv nA hHeld
              refine wpAnyH_ready (rs := [7]) (by kernel_rfl) (by simp) ?_
              refine AllReadyH.cons (o := _) rfl (fun K hK => ?_) AllReadyH.nil
              go_simp
              refine hK.out _ _ ?_ (fun hHeld2 => ?_)
              · exact hHeld
              clear hK K
              try simp only [Act.put, List.getElem_toArray, List.getElem_cons_succ, List.getElem_cons_zero, List.setIfInBounds_toArray, List.set_cons_zero, List.set_cons_succ]
              refine wpAnyH_ready (rs := [8]) (by kernel_rfl) (by simp) ?_
              refine AllReadyH.cons (o := _) rfl (fun K hK => ?_) AllReadyH.nil
              go_simp
              go_at_call 40
              refine (LA.out _ _).mono ?_
              rintro e' q8 ⟨rfl, hb⟩
              have hs := FB64.step (w := u1) hHeld hb
              clear hb
              go_wp2_with fail
              refine hK.out _ _ ?_ (fun hHeld2 => ?_)
              · exact hs
              clear hK K hHeld2
              try simp only [Act.put, List.getElem_toArray, List.getElem_cons_succ, List.getElem_cons_zero, List.setIfInBounds_toArray, List.set_cons_zero, List.set_cons_succ]
              have hHeld := hs
              clear hs
              refine' wpAnyH_take (i := 9) (oi := _) (v := _) rfl (by kernel_rfl) (by kernel_rfl) (by kernel_rfl) (fun _ _ _ h => h) (Or.inl ⟨by simp [Region.wanted, yielded, undef], ?hy9⟩) (by assumption) ?rest9
              case hy9 =>
                intro w hSw
                (try dsimp only at hSw)
                go_simp
                (try with_reducible rfl)
              case rest9 =>
                try simp only [Act.put, List.getElem_toArray, List.getElem_cons_succ, List.getElem_cons_zero, List.setIfInBounds_toArray, List.set_cons_zero, List.set_cons_succ]
                refine' wpAnyH_take (i := 10) (oi := _) (v := _) rfl (by kernel_rfl) (by kernel_rfl) (by kernel_rfl) (fun _ _ _ h => h) (Or.inl ⟨by simp [Region.wanted, yielded, undef], ?hy10⟩) (by assumption) ?rest10
                case hy10 =>
                  intro w hSw
                  (try dsimp only at hSw)
                  go_simp
                  (try with_reducible rfl)
                case rest10 =>
                  try simp only [Act.put, List.getElem_toArray, List.getElem_cons_succ, List.getElem_cons_zero, List.setIfInBounds_toArray, List.set_cons_zero, List.set_cons_succ]
                  refine' wpAnyH_take (i := 11) (oi := _) (v := _) rfl (by kernel_rfl) (by kernel_rfl) (by kernel_rfl) (fun _ _ _ h => h) (Or.inl ⟨by simp [Region.wanted, yielded, undef], ?hy11⟩) (by assumption) ?rest11
                  case hy11 =>
                    intro w hSw
                    (try dsimp only at hSw)
                    go_simp
                    (try with_reducible rfl)
                  case rest11 =>
                    try simp only [Act.put, List.getElem_toArray, List.getElem_cons_succ, List.getElem_cons_zero, List.setIfInBounds_toArray, List.set_cons_zero, List.set_cons_succ]
                    refine' wpAnyH_take (i := 12) (oi := _) (v := _) rfl (by kernel_rfl) (by kernel_rfl) (by kernel_rfl) (fun _ _ _ h => h) (Or.inl ⟨by simp [Region.wanted, yielded, undef], ?hy12⟩) (by assumption) ?rest12
                    case hy12 =>
                      intro w hSw
                      (try dsimp only at hSw)
                      go_simp
                      (try with_reducible rfl)
                    case rest12 =>
                      try simp only [Act.put, List.getElem_toArray, List.getElem_cons_succ, List.getElem_cons_zero, List.setIfInBounds_toArray, List.set_cons_zero, List.set_cons_succ]
                      refine' wpAnyH_take (i := 14) (oi := _) (v := _) rfl (by kernel_rfl) (by kernel_rfl) (by kernel_rfl) (fun _ _ _ h => h) (Or.inl ⟨by simp [Region.wanted, yielded, undef], ?hy14⟩) (by assumption) ?rest14
                      case hy14 =>
                        intro w hSw
                        (try dsimp only at hSw)
                        go_simp
                        (try with_reducible rfl)
                      case rest14 =>
                        try simp only [Act.put, List.getElem_toArray, List.getElem_cons_succ, List.getElem_cons_zero, List.setIfInBounds_toArray, List.set_cons_zero, List.set_cons_succ]
                        refine' wpAnyH_take (i := 15) (oi := _) (v := _) rfl (by kernel_rfl) (by kernel_rfl) (by kernel_rfl) (fun _ _ _ h => h) (Or.inl ⟨by simp [Region.wanted, yielded, undef], ?hy15⟩) (by assumption) ?rest15
                        case hy15 =>
                          intro w hSw
                          (try dsimp only at hSw)
                          go_simp
                          (try with_reducible rfl)
                        case rest15 =>
                          try simp only [Act.put, List.getElem_toArray, List.getElem_cons_succ, List.getElem_cons_zero, List.setIfInBounds_toArray, List.set_cons_zero, List.set_cons_succ]
                          refine wpAnyH_ready (rs := [13, 16]) (by kernel_rfl) (by simp) ?_
                          refine' (fun H => ?_ : _ → _) ?_
                          rotate_left 1
                          · refine AllReadyH.cons (o := _) rfl (fun K hK => ?_) ?_
                            · go_simp
                              go_at_call 19
                              refine (IS.out _).mono ?_
                              rintro e' q ⟨rfl, rfl⟩
                              go_wp2_with fail
                              refine hK.out _ _ ?_ (fun hHeld2 => ?_)
                              · exact hHeld
                              clear hK K
                              try simp only [Act.put, List.getElem_toArray, List.getElem_cons_succ, List.getElem_cons_zero, List.setIfInBounds_toArray, List.set_cons_zero, List.set_cons_succ]
                              refine wpAnyH_ready (rs := [16]) (by kernel_rfl) (by simp) ?_
                              refine AllReadyH.cons (o := _) rfl (fun K hK => ?_) AllReadyH.nil
                              go_simp
                              refine hK.out _ _ ?_ (fun hHeld2 => ?_)
                              · exact FB64.wv _ hHeld
                              clear hK K
                              try simp only [Act.put, List.getElem_toArray, List.getElem_cons_succ, List.getElem_cons_zero, List.setIfInBounds_toArray, List.set_cons_zero, List.set_cons_succ]
                              exact H
                            · refine AllReadyH.cons (o := _) rfl (fun K hK => ?_) AllReadyH.nil
                              go_simp
                              refine hK.out _ _ ?_ (fun hHeld2 => ?_)
                              · exact FB64.wv _ hHeld
                              clear hK K
                              try simp only [Act.put, List.getElem_toArray, List.getElem_cons_succ, List.getElem_cons_zero, List.setIfInBounds_toArray, List.set_cons_zero, List.set_cons_succ]
                              refine wpAnyH_ready (rs := [13]) (by kernel_rfl) (by simp) ?_
                              refine AllReadyH.cons (o := _) rfl (fun K hK => ?_) AllReadyH.nil
                              go_simp
                              go_at_call 19
                              refine (IS.out _).mono ?_
                              rintro e' q ⟨rfl, rfl⟩
                              go_wp2_with fail
                              refine hK.out _ _ ?_ (fun hHeld2 => ?_)
                              · exact FB64.wv _ hHeld
                              clear hK K
                              try simp only [Act.put, List.getElem_toArray, List.getElem_cons_succ, List.getElem_cons_zero, List.setIfInBounds_toArray, List.set_cons_zero, List.set_cons_succ]
                              exact H
                          · have hHeld := FB64.wv nS hHeld
                            refine wpAnyH_ready (rs := [17]) (by kernel_rfl) (by simp) ?_
                            refine AllReadyH.cons (o := _) rfl (fun K hK => ?_) AllReadyH.nil
                            go_simp
                            refine hK.out _ _ ?_ (fun hHeld2 => ?_)
                            · exact hHeld
                            clear hK K
                            try simp only [Act.put, List.getElem_toArray, List.getElem_cons_succ, List.getElem_cons_zero, List.setIfInBounds_toArray, List.set_cons_zero, List.set_cons_succ]
                            refine wpAnyH_ready (rs := [18]) (by kernel_rfl) (by simp) ?_
                            refine AllReadyH.cons (o := _) rfl (fun K hK => ?_) AllReadyH.nil
                            go_simp
                            go_at_call 40
                            refine (LS.out _ _).mono ?_
                            rintro e' q18 ⟨rfl, hb⟩
                            have hs := FB64.step (w := u1) hHeld hb
                            clear hb
                            go_wp2_with fail
                            refine hK.out _ _ ?_ (fun hHeld2 => ?_)
                            · exact hs
                            clear hK K hHeld2
                            try simp only [Act.put, List.getElem_toArray, List.getElem_cons_succ, List.getElem_cons_zero, List.setIfInBounds_toArray, List.set_cons_zero, List.set_cons_succ]
                            have hHeld := hs
                            clear hs
                            refine' wpAnyH_take (i := 19) (oi := _) (v := _) rfl (by kernel_rfl) (by kernel_rfl) (by kernel_rfl) (fun _ _ _ h => h) (Or.inl ⟨by simp [Region.wanted, yielded, undef], ?hy19⟩) (by assumption) ?rest19
                            case hy19 =>
                              intro w hSw
                              (try dsimp only at hSw)
                              go_simp
                              (try with_reducible rfl)
                            case rest19 =>
                              try simp only [Act.put, List.getElem_toArray, List.getElem_cons_succ, List.getElem_cons_zero, List.setIfInBounds_toArray, List.set_cons_zero, List.set_cons_succ]
                              refine' wpAnyH_take (i := 20) (oi := _) (v := _) rfl (by kernel_rfl) (by kernel_rfl) (by kernel_rfl) (fun _ _ _ h => h) (Or.inl ⟨by simp [Region.wanted, yielded, undef], ?hy20⟩) (by assumption) ?rest20
                              case hy20 =>
                                intro w hSw
                                (try dsimp only at hSw)
                                go_simp
                                (try with_reducible rfl)
                              case rest20 =>
                                try simp only [Act.put, List.getElem_toArray, List.getElem_cons_succ, List.getElem_cons_zero, List.setIfInBounds_toArray, List.set_cons_zero, List.set_cons_succ]
                                refine' wpAnyH_take (i := 21) (oi := _) (v := _) rfl (by kernel_rfl) (by kernel_rfl) (by kernel_rfl) (fun _ _ _ h => h) (Or.inl ⟨by simp [Region.wanted, yielded, undef], ?hy21⟩) (by assumption) ?rest21
                                case hy21 =>
                                  intro w hSw
                                  (try dsimp only at hSw)
                                  go_simp
                                  (try with_reducible rfl)
                                case rest21 =>
                                  try simp only [Act.put, List.getElem_toArray, List.getElem_cons_succ, List.getElem_cons_zero, List.setIfInBounds_toArray, List.set_cons_zero, List.set_cons_succ]
                                  refine' wpAnyH_take (i := 22) (oi := _) (v := _) rfl (by kernel_rfl) (by kernel_rfl) (by kernel_rfl) (fun _ _ _ h => h) (Or.inl ⟨by simp [Region.wanted, yielded, undef], ?hy22⟩) (by assumption) ?rest22
                                  case hy22 =>
                                    intro w hSw
                                    (try dsimp only at hSw)
                                    go_simp
                                    (try with_reducible rfl)
                                  case rest22 =>
                                    try simp only [Act.put, List.getElem_toArray, List.getElem_cons_succ, List.getElem_cons_zero, List.setIfInBounds_toArray, List.set_cons_zero, List.set_cons_succ]
                                    refine' wpAnyH_take (i := 23) (oi := _) (v := _) rfl (by kernel_rfl) (by kernel_rfl) (by kernel_rfl) (fun _ _ _ h => h) (Or.inl ⟨by simp [Region.wanted, yielded, undef], ?hy23⟩) (by assumption) ?rest23
                                    case hy23 =>
                                      intro w hSw
                                      (try dsimp only at hSw)
                                      go_simp
                                      (try with_reducible rfl)
                                    case rest23 =>
                                      try simp only [Act.put, List.getElem_toArray, List.getElem_cons_succ, List.getElem_cons_zero, List.setIfInBounds_toArray, List.set_cons_zero, List.set_cons_succ]
                                      refine' wpAnyH_take (i := 25) (oi := _) (v := _) rfl (by kernel_rfl) (by kernel_rfl) (by kernel_rfl) (fun _ _ _ h => h) (Or.inl ⟨by simp [Region.wanted, yielded, undef], ?hy25⟩) (by assumption) ?rest25
                                      case hy25 =>
                                        intro w hSw
                                        (try dsimp only at hSw)
                                        go_simp
                                        (try with_reducible rfl)
                                      case rest25 =>
                                        try simp only [Act.put, List.getElem_toArray, List.getElem_cons_succ, List.getElem_cons_zero, List.setIfInBounds_toArray, List.set_cons_zero, List.set_cons_succ]
                                        refine' wpAnyH_take (i := 26) (oi := _) (v := _) rfl (by kernel_rfl) (by kernel_rfl) (by kernel_rfl) (fun _ _ _ h => h) (Or.inl ⟨by simp [Region.wanted, yielded, undef], ?hy26⟩) (by assumption) ?rest26
                                        case hy26 =>
                                          intro w hSw
                                          (try dsimp only at hSw)
                                          go_simp
                                          (try with_reducible rfl)
                                        case rest26 =>
                                          try simp only [Act.put, List.getElem_toArray, List.getElem_cons_succ, List.getElem_cons_zero, List.setIfInBounds_toArray, List.set_cons_zero, List.set_cons_succ]
                                          refine wpAnyH_ready (rs := [24, 27]) (by kernel_rfl) (by simp) ?_
                                          refine' (fun H => ?_ : _ → _) ?_
                                          rotate_left 1
                                          · refine AllReadyH.cons (o := _) rfl (fun K hK => ?_) ?_
                                            · go_simp
                                              go_at_call 21
                                              refine (IM.out _).mono ?_
                                              rintro e' q ⟨rfl, rfl⟩
                                              go_wp2_with fail
                                              refine hK.out _ _ ?_ (fun hHeld2 => ?_)
                                              · exact hHeld
                                              clear hK K
                                              try simp only [Act.put, List.getElem_toArray, List.getElem_cons_succ, List.getElem_cons_zero, List.setIfInBounds_toArray, List.set_cons_zero, List.set_cons_succ]
                                              refine wpAnyH_ready (rs := [27]) (by kernel_rfl) (by simp) ?_
                                              refine AllReadyH.cons (o := _) rfl (fun K hK => ?_) AllReadyH.nil
                                              go_simp
                                              refine hK.out _ _ ?_ (fun hHeld2 => ?_)
                                              · exact FB64.wv _ hHeld
                                              clear hK K
                                              try simp only [Act.put, List.getElem_toArray, List.getElem_cons_succ, List.getElem_cons_zero, List.setIfInBounds_toArray, List.set_cons_zero, List.set_cons_succ]
                                              exact H
                                            · refine AllReadyH.cons (o := _) rfl (fun K hK => ?_) AllReadyH.nil
                                              go_simp
                                              refine hK.out _ _ ?_ (fun hHeld2 => ?_)
                                              · exact FB64.wv _ hHeld
                                              clear hK K
                                              try simp only [Act.put, List.getElem_toArray, List.getElem_cons_succ, List.getElem_cons_zero, List.setIfInBounds_toArray, List.set_cons_zero, List.set_cons_succ]
                                              refine wpAnyH_ready (rs := [24]) (by kernel_rfl) (by simp) ?_
                                              refine AllReadyH.cons (o := _) rfl (fun K hK => ?_) AllReadyH.nil
                                              go_simp
                                              go_at_call 21
                                              refine (IM.out _).mono ?_
                                              rintro e' q ⟨rfl, rfl⟩
                                              go_wp2_with fail
                                              refine hK.out _ _ ?_ (fun hHeld2 => ?_)
                                              · exact FB64.wv _ hHeld
                                              clear hK K
                                              try simp only [Act.put, List.getElem_toArray, List.getElem_cons_succ, List.getElem_cons_zero, List.setIfInBounds_toArray, List.set_cons_zero, List.set_cons_succ]
                                              exact H
                                          · have hHeld := FB64.wv nM hHeld
                                            refine wpAnyH_ready (rs := [28]) (by kernel_rfl) (by simp) ?_
                                            refine AllReadyH.cons (o := _) rfl (fun K hK => ?_) AllReadyH.nil
                                            go_simp
                                            refine hK.out _ _ ?_ (fun hHeld2 => ?_)
                                            · exact hHeld
                                            clear hK K
                                            try simp only [Act.put, List.getElem_toArray, List.getElem_cons_succ, List.getElem_cons_zero, List.setIfInBounds_toArray, List.set_cons_zero, List.set_cons_succ]
                                            refine wpAnyH_ready (rs := [29]) (by kernel_rfl) (by simp) ?_
                                            refine AllReadyH.cons (o := _) rfl (fun K hK => ?_) AllReadyH.nil
                                            go_simp
                                            go_at_call 40
                                            refine (LM.out _ _).mono ?_
                                            rintro e' q29 ⟨rfl, hb⟩
                                            have hs := FB64.step (w := u1) hHeld hb
                                            clear hb
                                            go_wp2_with fail
                                            refine hK.out _ _ ?_ (fun hHeld2 => ?_)
                                            · exact hs
                                            clear hK K hHeld2
                                            try simp only [Act.put, List.getElem_toArray, List.getElem_cons_succ, List.getElem_cons_zero, List.setIfInBounds_toArray, List.set_cons_zero, List.set_cons_succ]
                                            have hHeld := hs
                                            clear hs
                                            refine' wpAnyH_take (i := 30) (oi := _) (v := _) rfl (by kernel_rfl) (by kernel_rfl) (by kernel_rfl) (fun _ _ _ h => h) (Or.inl ⟨by simp [Region.wanted, yielded, undef], ?hy30⟩) (by assumption) ?rest30
                                            case hy30 =>
                                              intro w hSw
                                              (try dsimp only at hSw)
                                              go_simp
                                              (try with_reducible rfl)
                                            case rest30 =>
                                              try simp only [Act.put, List.getElem_toArray, List.getElem_cons_succ, List.getElem_cons_zero, List.setIfInBounds_toArray, List.set_cons_zero, List.set_cons_succ]
                                              refine' wpAnyH_take (i := 31) (oi := _) (v := _) rfl (by kernel_rfl) (by kernel_rfl) (by kernel_rfl) (fun _ _ _ h => h) (Or.inl ⟨by simp [Region.wanted, yielded, undef], ?hy31⟩) (by assumption) ?rest31
                                              case hy31 =>
                                                intro w hSw
                                                (try dsimp only at hSw)
                                                go_simp
                                                (try with_reducible rfl)
                                              case rest31 =>
                                                try simp only [Act.put, List.getElem_toArray, List.getElem_cons_succ, List.getElem_cons_zero, List.setIfInBounds_toArray, List.set_cons_zero, List.set_cons_succ]
                                                refine' wpAnyH_take (i := 32) (oi := _) (v := _) rfl (by kernel_rfl) (by kernel_rfl) (by kernel_rfl) (fun _ _ _ h => h) (Or.inl ⟨by simp [Region.wanted, yielded, undef], ?hy32⟩) (by assumption) ?rest32
                                                case hy32 =>
                                                  intro w hSw
                                                  (try dsimp only at hSw)
                                                  go_simp
                                                  (try with_reducible rfl)
                                                case rest32 =>
                                                  try simp only [Act.put, List.getElem_toArray, List.getElem_cons_succ, List.getElem_cons_zero, List.setIfInBounds_toArray, List.set_cons_zero, List.set_cons_succ]
                                                  refine' wpAnyH_take (i := 33) (oi := _) (v := _) rfl (by kernel_rfl) (by kernel_rfl) (by kernel_rfl) (fun _ _ _ h => h) (Or.inl ⟨by simp [Region.wanted, yielded, undef], ?hy33⟩) (by assumption) ?rest33
                                                  case hy33 =>
                                                    intro w hSw
                                                    (try dsimp only at hSw)
                                                    go_simp
                                                    (try with_reducible rfl)
                                                  case rest33 =>
                                                    try simp only [Act.put, List.getElem_toArray, List.getElem_cons_succ, List.getElem_cons_zero, List.setIfInBounds_toArray, List.set_cons_zero, List.set_cons_succ]
                                                    refine' wpAnyH_take (i := 34) (oi := _) (v := _) rfl (by kernel_rfl) (by kernel_rfl) (by kernel_rfl) (fun _ _ _ h => h) (Or.inl ⟨by simp [Region.wanted, yielded, undef], ?hy34⟩) (by assumption) ?rest34
                                                    case hy34 =>
                                                      intro w hSw
                                                      (try dsimp only at hSw)
                                                      go_simp
                                                      (try with_reducible rfl)
                                                    case rest34 =>
                                                      try simp only [Act.put, List.getElem_toArray, List.getElem_cons_succ, List.getElem_cons_zero, List.setIfInBounds_toArray, List.set_cons_zero, List.set_cons_succ]
                                                      refine' wpAnyH_take (i := 36) (oi := _) (v := _) rfl (by kernel_rfl) (by kernel_rfl) (by kernel_rfl) (fun _ _ _ h => h) (Or.inl ⟨by simp [Region.wanted, yielded, undef], ?hy36⟩) (by assumption) ?rest36
                                                      case hy36 =>
                                                        intro w hSw
                                                        (try dsimp only at hSw)
                                                        go_simp
                                                        (try with_reducible rfl)
                                                      case rest36 =>
                                                        try simp only [Act.put, List.getElem_toArray, List.getElem_cons_succ, List.getElem_cons_zero, List.setIfInBounds_toArray, List.set_cons_zero, List.set_cons_succ]
                                                        refine' wpAnyH_take (i := 37) (oi := _) (v := _) rfl (by kernel_rfl) (by kernel_rfl) (by kernel_rfl) (fun _ _ _ h => h) (Or.inl ⟨by simp [Region.wanted, yielded, undef], ?hy37⟩) (by assumption) ?rest37
                                                        case hy37 =>
                                                          intro w hSw
                                                          (try dsimp only at hSw)
                                                          go_simp
                                                          (try with_reducible rfl)
                                                        case rest37 =>
                                                          try simp only [Act.put, List.getElem_toArray, List.getElem_cons_succ, List.getElem_cons_zero, List.setIfInBounds_toArray, List.set_cons_zero, List.set_cons_succ]
                                                          refine wpAnyH_ready (rs := [35, 38]) (by kernel_rfl) (by simp) ?_
                                                          refine' (fun H => ?_ : _ → _) ?_
                                                          rotate_left 1
                                                          · refine AllReadyH.cons (o := _) rfl (fun K hK => ?_) ?_
                                                            · go_simp
                                                              go_at_call 22
                                                              refine (IQ.out _).mono ?_
                                                              rintro e' q ⟨rfl, rfl⟩
                                                              go_wp2_with fail
                                                              refine hK.out _ _ ?_ (fun hHeld2 => ?_)
                                                              · exact hHeld
                                                              clear hK K
                                                              try simp only [Act.put, List.getElem_toArray, List.getElem_cons_succ, List.getElem_cons_zero, List.setIfInBounds_toArray, List.set_cons_zero, List.set_cons_succ]
                                                              refine wpAnyH_ready (rs := [38]) (by kernel_rfl) (by simp) ?_
                                                              refine AllReadyH.cons (o := _) rfl (fun K hK => ?_) AllReadyH.nil
                                                              go_simp
                                                              refine hK.out _ _ ?_ (fun hHeld2 => ?_)
                                                              · exact FB64.wv _ hHeld
                                                              clear hK K
                                                              try simp only [Act.put, List.getElem_toArray, List.getElem_cons_succ, List.getElem_cons_zero, List.setIfInBounds_toArray, List.set_cons_zero, List.set_cons_succ]
                                                              exact H
                                                            · refine AllReadyH.cons (o := _) rfl (fun K hK => ?_) AllReadyH.nil
                                                              go_simp
                                                              refine hK.out _ _ ?_ (fun hHeld2 => ?_)
                                                              · exact FB64.wv _ hHeld
                                                              clear hK K
                                                              try simp only [Act.put, List.getElem_toArray, List.getElem_cons_succ, List.getElem_cons_zero, List.setIfInBounds_toArray, List.set_cons_zero, List.set_cons_succ]
                                                              refine wpAnyH_ready (rs := [35]) (by kernel_rfl) (by simp) ?_
                                                              refine AllReadyH.cons (o := _) rfl (fun K hK => ?_) AllReadyH.nil
                                                              go_simp
                                                              go_at_call 22
                                                              refine (IQ.out _).mono ?_
                                                              rintro e' q ⟨rfl, rfl⟩
                                                              go_wp2_with fail
                                                              refine hK.out _ _ ?_ (fun hHeld2 => ?_)
                                                              · exact FB64.wv _ hHeld
                                                              clear hK K
                                                              try simp only [Act.put, List.getElem_toArray, List.getElem_cons_succ, List.getElem_cons_zero, List.setIfInBounds_toArray, List.set_cons_zero, List.set_cons_succ]
                                                              exact H
                                                          · have hHeld := FB64.wv nQ hHeld
                                                            refine wpAnyH_ready (rs := [39]) (by kernel_rfl) (by simp) ?_
                                                            refine AllReadyH.cons (o := _) rfl (fun K hK => ?_) AllReadyH.nil
                                                            go_simp
                                                            refine hK.out _ _ ?_ (fun hHeld2 => ?_)
                                                            · exact hHeld
                                                            clear hK K
                                                            try simp only [Act.put, List.getElem_toArray, List.getElem_cons_succ, List.getElem_cons_zero, List.setIfInBounds_toArray, List.set_cons_zero, List.set_cons_succ]
                                                            refine wpAnyH_ready (rs := [40]) (by kernel_rfl) (by simp) ?_
                                                            refine AllReadyH.cons (o := _) rfl (fun K hK => ?_) AllReadyH.nil
                                                            go_simp
                                                            go_at_call 40
                                                            refine (LQ.out _ _).mono ?_
                                                            rintro e' q40 ⟨rfl, hb⟩
                                                            have hs := FB64.step (w := u1) hHeld hb
                                                            clear hb
                                                            go_wp2_with fail
                                                            refine hK.out _ _ ?_ (fun hHeld2 => ?_)
                                                            · exact hs
                                                            clear hK K hHeld2
                                                            try simp only [Act.put, List.getElem_toArray, List.getElem_cons_succ, List.getElem_cons_zero, List.setIfInBounds_toArray, List.set_cons_zero, List.set_cons_succ]
                                                            have hHeld := hs
                                                            clear hs
                                                            refine' wpAnyH_take (i := 41) (oi := _) (v := _) rfl (by kernel_rfl) (by kernel_rfl) (by kernel_rfl) (fun _ _ _ h => h) (Or.inl ⟨by simp [Region.wanted, yielded, undef], ?hy41⟩) (by assumption) ?rest41
                                                            case hy41 =>
                                                              intro w hSw
                                                              (try dsimp only at hSw)
                                                              go_simp
                                                              (try with_reducible rfl)
                                                            case rest41 =>
                                                              try simp only [Act.put, List.getElem_toArray, List.getElem_cons_succ, List.getElem_cons_zero, List.setIfInBounds_toArray, List.set_cons_zero, List.set_cons_succ]
                                                              refine' wpAnyH_take (i := 42) (oi := _) (v := _) rfl (by kernel_rfl) (by kernel_rfl) (by kernel_rfl) (fun _ _ _ h => h) (Or.inl ⟨by simp [Region.wanted, yielded, undef], ?hy42⟩) (by assumption) ?rest42
                                                              case hy42 =>
                                                                intro w hSw
                                                                (try dsimp only at hSw)
                                                                go_simp
                                                                (try with_reducible rfl)
                                                              case rest42 =>
                                                                try simp only [Act.put, List.getElem_toArray, List.getElem_cons_succ, List.getElem_cons_zero, List.setIfInBounds_toArray, List.set_cons_zero, List.set_cons_succ]
                                                                refine' wpAnyH_take (i := 43) (oi := _) (v := _) rfl (by kernel_rfl) (by kernel_rfl) (by kernel_rfl) (fun _ _ _ h => h) (Or.inl ⟨by simp [Region.wanted, yielded, undef], ?hy43⟩) (by assumption) ?rest43
                                                                case hy43 =>
                                                                  intro w hSw
                                                                  (try dsimp only at hSw)
                                                                  go_simp
                                                                  (try with_reducible rfl)
                                                                case rest43 =>
                                                                  try simp only [Act.put, List.getElem_toArray, List.getElem_cons_succ, List.getElem_cons_zero, List.setIfInBounds_toArray, List.set_cons_zero, List.set_cons_succ]
                                                                  refine' wpAnyH_take (i := 44) (oi := _) (v := _) rfl (by kernel_rfl) (by kernel_rfl) (by kernel_rfl) (fun _ _ _ h => h) (Or.inl ⟨by simp [Region.wanted, yielded, undef], ?hy44⟩) (by assumption) ?rest44
                                                                  case hy44 =>
                                                                    intro w hSw
                                                                    (try dsimp only at hSw)
                                                                    go_simp
                                                                    (try with_reducible rfl)
                                                                  case rest44 =>
                                                                    try simp only [Act.put, List.getElem_toArray, List.getElem_cons_succ, List.getElem_cons_zero, List.setIfInBounds_toArray, List.set_cons_zero, List.set_cons_succ]
                                                                    refine' wpAnyH_take (i := 46) (oi := _) (v := _) rfl (by kernel_rfl) (by kernel_rfl) (by kernel_rfl) (fun _ _ _ h => h) (Or.inl ⟨by simp [Region.wanted, yielded, undef], ?hy46⟩) (by assumption) ?rest46
                                                                    case hy46 =>
                                                                      intro w hSw
                                                                      (try dsimp only at hSw)
                                                                      go_simp
                                                                      (try with_reducible rfl)
                                                                    case rest46 =>
                                                                      try simp only [Act.put, List.getElem_toArray, List.getElem_cons_succ, List.getElem_cons_zero, List.setIfInBounds_toArray, List.set_cons_zero, List.set_cons_succ]
                                                                      refine' wpAnyH_take (i := 47) (oi := _) (v := _) rfl (by kernel_rfl) (by kernel_rfl) (by kernel_rfl) (fun _ _ _ h => h) (Or.inl ⟨by simp [Region.wanted, yielded, undef], ?hy47⟩) (by assumption) ?rest47
                                                                      case hy47 =>
                                                                        intro w hSw
                                                                        (try dsimp only at hSw)
                                                                        go_simp
                                                                        (try with_reducible rfl)
                                                                      case rest47 =>
                                                                        try simp only [Act.put, List.getElem_toArray, List.getElem_cons_succ, List.getElem_cons_zero, List.setIfInBounds_toArray, List.set_cons_zero, List.set_cons_succ]
                                                                        refine' wpAnyH_take (i := 48) (oi := _) (v := _) rfl (by kernel_rfl) (by kernel_rfl) (by kernel_rfl) (fun _ _ _ h => h) (Or.inl ⟨by simp [Region.wanted, yielded, undef], ?hy48⟩) (by assumption) ?rest48
                                                                        case hy48 =>
                                                                          intro w hSw
                                                                          (try dsimp only at hSw)
                                                                          go_simp
                                                                          (try with_reducible rfl)
                                                                        case rest48 =>
                                                                          try simp only [Act.put, List.getElem_toArray, List.getElem_cons_succ, List.getElem_cons_zero, List.setIfInBounds_toArray, List.set_cons_zero, List.set_cons_succ]
                                                                          refine wpAnyH_ready (rs := [45]) (by kernel_rfl) (by simp) ?_
                                                                          refine AllReadyH.cons (o := _) rfl (fun K hK => ?_) AllReadyH.nil
                                                                          go_simp
                                                                          go_at_call 20
                                                                          refine (IE.out _).mono ?_
                                                                          rintro e' q ⟨rfl, rfl⟩
                                                                          go_wp2_with fail
                                                                          refine hK.out _ _ ?_ (fun hHeld2 => ?_)
                                                                          · exact hHeld
                                                                          clear hK K
                                                                          try simp only [Act.put, List.getElem_toArray, List.getElem_cons_succ, List.getElem_cons_zero, List.setIfInBounds_toArray, List.set_cons_zero, List.set_cons_succ]
                                                                          refine' wpAnyH_take (i := 49) (oi := _) (v := _) rfl (by kernel_rfl) (by kernel_rfl) (by kernel_rfl) (fun _ _ _ h => h) (Or.inl ⟨by simp [Region.wanted, yielded, undef], ?hy49⟩) (by assumption) ?rest49
                                                                          case hy49 =>
                                                                            intro w hSw
                                                                            (try dsimp only at hSw)
                                                                            go_simp
                                                                            (try with_reducible rfl)
                                                                          case rest49 =>
                                                                            try simp only [Act.put, List.getElem_toArray, List.getElem_cons_succ, List.getElem_cons_zero, List.setIfInBounds_toArray, List.set_cons_zero, List.set_cons_succ]
                                                                            refine' wpAnyH_take (i := 50) (oi := _) (v := _) rfl (by kernel_rfl) (by kernel_rfl) (by kernel_rfl) (fun _ _ _ h => h) (Or.inl ⟨by simp [Region.wanted, yielded, undef], ?hy50⟩) (by assumption) ?rest50
                                                                            case hy50 =>
                                                                              intro w hSw
                                                                              (try dsimp only at hSw)
                                                                              go_simp
                                                                              (try with_reducible rfl)
                                                                            case rest50 =>
                                                                              try simp only [Act.put, List.getElem_toArray, List.getElem_cons_succ, List.getElem_cons_zero, List.setIfInBounds_toArray, List.set_cons_zero, List.set_cons_succ]
                                                                              refine' wpAnyH_take (i := 51) (oi := _) (v := _) rfl (by kernel_rfl) (by kernel_rfl) (by kernel_rfl) (fun _ _ _ h => h) (Or.inl ⟨by simp [Region.wanted, yielded, undef], ?hy51⟩) (by assumption) ?rest51
                                                                              case hy51 =>
                                                                                intro w hSw
                                                                                (try dsimp only at hSw)
                                                                                go_simp
                                                                                (try with_reducible rfl)
                                                                              case rest51 =>
                                                                                try simp only [Act.put, List.getElem_toArray, List.getElem_cons_succ, List.getElem_cons_zero, List.setIfInBounds_toArray, List.set_cons_zero, List.set_cons_succ]
                                                                                refine' wpAnyH_take (i := 52) (oi := _) (v := _) rfl (by kernel_rfl) (by kernel_rfl) (by kernel_rfl) (fun _ _ _ h => h) (Or.inl ⟨by simp [Region.wanted, yielded, undef], ?hy52⟩) (by assumption) ?rest52
                                                                                case hy52 =>
                                                                                  intro w hSw
                                                                                  (try dsimp only at hSw)
                                                                                  go_simp
                                                                                  (try with_reducible rfl)
                                                                                case rest52 =>
                                                                                  try simp only [Act.put, List.getElem_toArray, List.getElem_cons_succ, List.getElem_cons_zero, List.setIfInBounds_toArray, List.set_cons_zero, List.set_cons_succ]
                                                                                  refine' wpAnyH_take (i := 53) (oi := _) (v := _) rfl (by kernel_rfl) (by kernel_rfl) (by kernel_rfl) (fun _ _ _ h => h) (Or.inl ⟨by simp [Region.wanted, yielded, undef], ?hy53⟩) (by assumption) ?rest53
                                                                                  case hy53 =>
                                                                                    intro w hSw
                                                                                    (try dsimp only at hSw)
                                                                                    go_simp
                                                                                    (try with_reducible rfl)
                                                                                  case rest53 =>
                                                                                    try simp only [Act.put, List.getElem_toArray, List.getElem_cons_succ, List.getElem_cons_zero, List.setIfInBounds_toArray, List.set_cons_zero, List.set_cons_succ]
                                                                                    refine' wpAnyH_take (i := 55) (oi := _) (v := _) rfl (by kernel_rfl) (by kernel_rfl) (by kernel_rfl) (fun _ _ _ h => h) (Or.inl ⟨by simp [Region.wanted, yielded, undef], ?hy55⟩) (by assumption) ?rest55
                                                                                    case hy55 =>
                                                                                      intro w hSw
                                                                                      (try dsimp only at hSw)
                                                                                      go_simp
                                                                                      (try with_reducible rfl)
                                                                                    case rest55 =>
                                                                                      try simp only [Act.put, List.getElem_toArray, List.getElem_cons_succ, List.getElem_cons_zero, List.setIfInBounds_toArray, List.set_cons_zero, List.set_cons_succ]
                                                                                      refine' wpAnyH_take (i := 56) (oi := _) (v := _) rfl (by kernel_rfl) (by kernel_rfl) (by kernel_rfl) (fun _ _ _ h => h) (Or.inl ⟨by simp [Region.wanted, yielded, undef], ?hy56⟩) (by assumption) ?rest56
                                                                                      case hy56 =>
                                                                                        intro w hSw
                                                                                        (try dsimp only at hSw)
                                                                                        go_simp
                                                                                        (try with_reducible rfl)
                                                                                      case rest56 =>
                                                                                        try simp only [Act.put, List.getElem_toArray, List.getElem_cons_succ, List.getElem_cons_zero, List.setIfInBounds_toArray, List.set_cons_zero, List.set_cons_succ]
                                                                                        refine' wpAnyH_take (i := 57) (oi := _) (v := _) rfl (by kernel_rfl) (by kernel_rfl) (by kernel_rfl) (fun _ _ _ h => h) (Or.inl ⟨by simp [Region.wanted, yielded, undef], ?hy57⟩) (by assumption) ?rest57
                                                                                        case hy57 =>
                                                                                          intro w hSw
                                                                                          (try dsimp only at hSw)
                                                                                          go_simp
                                                                                          (try with_reducible rfl)
                                                                                        case rest57 =>
                                                                                          try simp only [Act.put, List.getElem_toArray, List.getElem_cons_succ, List.getElem_cons_zero, List.setIfInBounds_toArray, List.set_cons_zero, List.set_cons_succ]
                                                                                          refine wpAnyH_ready (rs := [54]) (by kernel_rfl) (by simp) ?_
                                                                                          refine AllReadyH.cons (o := _) rfl (fun K hK => ?_) AllReadyH.nil
                                                                                          go_simp
                                                                                          go_at_call 50
                                                                                          refine (IG.out _).mono ?_
                                                                                          rintro e' q ⟨rfl, rfl⟩
                                                                                          go_wp2_with fail
                                                                                          refine hK.out _ _ ?_ (fun hHeld2 => ?_)
                                                                                          · exact hHeld
                                                                                          clear hK K
                                                                                          try simp only [Act.put, List.getElem_toArray, List.getElem_cons_succ, List.getElem_cons_zero, List.setIfInBounds_toArray, List.set_cons_zero, List.set_cons_succ]
                                                                                          refine' wpAnyH_take (i := 58) (oi := _) (v := _) rfl (by kernel_rfl) (by kernel_rfl) (by kernel_rfl) (fun _ _ _ h => h) (Or.inl ⟨by simp [Region.wanted, yielded, undef], ?hy58⟩) (by assumption) ?rest58
                                                                                          case hy58 =>
                                                                                            intro w hSw
                                                                                            (try dsimp only at hSw)
                                                                                            go_simp
                                                                                            (try with_reducible rfl)
                                                                                          case rest58 =>
                                                                                            try simp only [Act.put, List.getElem_toArray, List.getElem_cons_succ, List.getElem_cons_zero, List.setIfInBounds_toArray, List.set_cons_zero, List.set_cons_succ]
                                                                                            refine' wpAnyH_take (i := 59) (oi := _) (v := _) rfl (by kernel_rfl) (by kernel_rfl) (by kernel_rfl) (fun _ _ _ h => h) (Or.inl ⟨by simp [Region.wanted, yielded, undef], ?hy59⟩) (by assumption) ?rest59
                                                                                            case hy59 =>
                                                                                              intro w hSw
                                                                                              (try dsimp only at hSw)
                                                                                              go_simp
                                                                                              (try with_reducible rfl)
                                                                                            case rest59 =>
                                                                                              try simp only [Act.put, List.getElem_toArray, List.getElem_cons_succ, List.getElem_cons_zero, List.setIfInBounds_toArray, List.set_cons_zero, List.set_cons_succ]
                                                                                              refine' wpAnyH_take (i := 60) (oi := _) (v := _) rfl (by kernel_rfl) (by kernel_rfl) (by kernel_rfl) (fun _ _ _ h => h) (Or.inl ⟨by simp [Region.wanted, yielded, undef], ?hy60⟩) (by assumption) ?rest60
                                                                                              case hy60 =>
                                                                                                intro w hSw
                                                                                                (try dsimp only at hSw)
                                                                                                go_simp
                                                                                                (try with_reducible rfl)
                                                                                              case rest60 =>
                                                                                                try simp only [Act.put, List.getElem_toArray, List.getElem_cons_succ, List.getElem_cons_zero, List.setIfInBounds_toArray, List.set_cons_zero, List.set_cons_succ]
                                                                                                refine' wpAnyH_take (i := 61) (oi := _) (v := _) rfl (by kernel_rfl) (by kernel_rfl) (by kernel_rfl) (fun _ _ _ h => h) (Or.inl ⟨by simp [Region.wanted, yielded, undef], ?hy61⟩) (by assumption) ?rest61
                                                                                                case hy61 =>
                                                                                                  intro w hSw
                                                                                                  (try dsimp only at hSw)
                                                                                                  go_simp
                                                                                                  (try with_reducible rfl)
                                                                                                case rest61 =>
                                                                                                  try simp only [Act.put, List.getElem_toArray, List.getElem_cons_succ, List.getElem_cons_zero, List.setIfInBounds_toArray, List.set_cons_zero, List.set_cons_succ]
                                                                                                  refine' wpAnyH_take (i := 62) (oi := _) (v := _) rfl (by kernel_rfl) (by kernel_rfl) (by kernel_rfl) (fun _ _ _ h => h) (Or.inl ⟨by simp [Region.wanted, yielded, undef], ?hy62⟩) (by assumption) ?rest62
                                                                                                  case hy62 =>
                                                                                                    intro w hSw
                                                                                                    (try dsimp only at hSw)
                                                                                                    go_simp
                                                                                                    (try with_reducible rfl)
                                                                                                  case rest62 =>
                                                                                                    try simp only [Act.put, List.getElem_toArray, List.getElem_cons_succ, List.getElem_cons_zero, List.setIfInBounds_toArray, List.set_cons_zero, List.set_cons_succ]
                                                                                                    refine' wpAnyH_take (i := 64) (oi := _) (v := _) rfl (by kernel_rfl) (by kernel_rfl) (by kernel_rfl) (fun _ _ _ h => h) (Or.inl ⟨by simp [Region.wanted, yielded, undef], ?hy64⟩) (by assumption) ?rest64
                                                                                                    case hy64 =>
                                                                                                      intro w hSw
                                                                                                      (try dsimp only at hSw)
                                                                                                      go_simp
                                                                                                      (try with_reducible rfl)
                                                                                                    case rest64 =>
                                                                                                      try simp only [Act.put, List.getElem_toArray, List.getElem_cons_succ, List.getElem_cons_zero, List.setIfInBounds_toArray, List.set_cons_zero, List.set_cons_succ]
                                                                                                      refine' wpAnyH_take (i := 65) (oi := _) (v := _) rfl (by kernel_rfl) (by kernel_rfl) (by kernel_rfl) (fun _ _ _ h => h) (Or.inl ⟨by simp [Region.wanted, yielded, undef], ?hy65⟩) (by assumption) ?rest65
                                                                                                      case hy65 =>
                                                                                                        intro w hSw
                                                                                                        (try dsimp only at hSw)
                                                                                                        go_simp
                                                                                                        (try with_reducible rfl)
                                                                                                      case rest65 =>
                                                                                                        try simp only [Act.put, List.getElem_toArray, List.getElem_cons_succ, List.getElem_cons_zero, List.setIfInBounds_toArray, List.set_cons_zero, List.set_cons_succ]
                                                                                                        refine' wpAnyH_take (i := 66) (oi := _) (v := _) rfl (by kernel_rfl) (by kernel_rfl) (by kernel_rfl) (fun _ _ _ h => h) (Or.inl ⟨by simp [Region.wanted, yielded, undef], ?hy66⟩) (by assumption) ?rest66
                                                                                                        case hy66 =>
                                                                                                          intro w hSw
                                                                                                          (try dsimp only at hSw)
                                                                                                          go_simp
                                                                                                          (try with_reducible rfl)
                                                                                                        case rest66 =>
                                                                                                          try simp only [Act.put, List.getElem_toArray, List.getElem_cons_succ, List.getElem_cons_zero, List.setIfInBounds_toArray, List.set_cons_zero, List.set_cons_succ]
                                                                                                          refine wpAnyH_ready (rs := [63]) (by kernel_rfl) (by simp) ?_
                                                                                                          refine AllReadyH.cons (o := _) rfl (fun K hK => ?_) AllReadyH.nil
                                                                                                          go_simp
                                                                                                          go_at_call 51
                                                                                                          refine (IH.out _).mono ?_
                                                                                                          rintro e' q ⟨rfl, rfl⟩
                                                                                                          go_wp2_with fail
                                                                                                          refine hK.out _ _ ?_ (fun hHeld2 => ?_)
                                                                                                          · exact hHeld
                                                                                                          clear hK K
                                                                                                          try simp only [Act.put, List.getElem_toArray, List.getElem_cons_succ, List.getElem_cons_zero, List.setIfInBounds_toArray, List.set_cons_zero, List.set_cons_succ]
                                                                                                          refine' wpAnyH_take (i := 67) (oi := _) (v := _) rfl (by kernel_rfl) (by kernel_rfl) (by kernel_rfl) (fun _ _ _ h => h) (Or.inl ⟨by simp [Region.wanted, yielded, undef], ?hy67⟩) (by assumption) ?rest67
                                                                                                          case hy67 =>
                                                                                                            intro w hSw
                                                                                                            (try dsimp only at hSw)
                                                                                                            go_simp
                                                                                                            (try with_reducible rfl)
                                                                                                          case rest67 =>
                                                                                                            try simp only [Act.put, List.getElem_toArray, List.getElem_cons_succ, List.getElem_cons_zero, List.setIfInBounds_toArray, List.set_cons_zero, List.set_cons_succ]
                                                                                                            refine' wpAnyH_take (i := 68) (oi := _) (v := _) rfl (by kernel_rfl) (by kernel_rfl) (by kernel_rfl) (fun _ _ _ h => h) (Or.inl ⟨by simp [Region.wanted, yielded, undef], ?hy68⟩) (by assumption) ?rest68
                                                                                                            case hy68 =>
                                                                                                              intro w hSw
                                                                                                              (try dsimp only at hSw)
                                                                                                              go_simp
                                                                                                              (try with_reducible rfl)
                                                                                                            case rest68 =>
                                                                                                              try simp only [Act.put, List.getElem_toArray, List.getElem_cons_succ, List.getElem_cons_zero, List.setIfInBounds_toArray, List.set_cons_zero, List.set_cons_succ]
                                                                                                              refine' wpAnyH_take (i := 69) (oi := _) (v := _) rfl (by kernel_rfl) (by kernel_rfl) (by kernel_rfl) (fun _ _ _ h => h) (Or.inl ⟨by simp [Region.wanted, yielded, undef], ?hy69⟩) (by assumption) ?rest69
                                                                                                              case hy69 =>
                                                                                                                intro w hSw
                                                                                                                (try dsimp only at hSw)
                                                                                                                go_simp
                                                                                                                (try with_reducible rfl)
                                                                                                              case rest69 =>
                                                                                                                try simp only [Act.put, List.getElem_toArray, List.getElem_cons_succ, List.getElem_cons_zero, List.setIfInBounds_toArray, List.set_cons_zero, List.set_cons_succ]
                                                                                                                refine wpAnyH_done (by kernel_rfl) ?_ _
                                                                                                                go_wp2_with fail
                                                                                                                go_ret
                                                                                                                exact ⟨rfl, below_trans' B1.out (FB64.below (by assumption))⟩
end Go.Proofs.Ytpjanmahbimhkaa.SF
