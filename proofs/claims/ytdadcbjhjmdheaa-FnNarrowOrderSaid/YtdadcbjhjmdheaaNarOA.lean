/-
  The walk of a law.
-/
import Derived.Test.YtdadcbjhjmdheaaWrap
import Derived.Test.YtdadcbjhjmdheaaAlikeW
import Derived.Test.YtdadcbjhjmdheaaFmtB
import Derived.Test.YtdadcbjhjmdheaaFrame
import Derived.Test.YtdadcbjhjmdheaaAlgC
import Derived.Test.YtdadcbjhjmdheaaCmpK
import Derived.Test.YtdadcbjhjmdheaaTwoF
import Derived.Test.YtdadcbjhjmdheaaOrdC
namespace Go.Proofs.Ytdadcbjhjmdheaa.SF
open Go.ChangeShapes Go.WideShapes Go.ChangeAt Go.RowKit
set_option linter.unusedVariables false
set_option linter.unusedSimpArgs false
set_option maxRecDepth 100000 in
set_option maxHeartbeats 4000000 in
theorem nar_a (x y : Nat) (w : World) (hx : x < 18446744073709551616) (hy : y < 18446744073709551616) (nx : isNaN64 x = false) (ny : isNaN64 y = false) (ho : ordI (key64 x) (key64 y) = -1) (hz : isZero32 (narrow x) = true) : Calls Try.prog 12 #[.int .u64 (x : Int), .int .u64 (y : Int)] w (LawPost w) := by
  have NX := fun w => fnan64_any x w hx
  have NY := fun w => fnan64_any y w hy
  have C : Hid (∀ w, Calls Try.prog 35 #[.int .u64 4607182418800017408] w (RetW (.int .u32 1065353216) w)) := Lib.hid fun w => by
    have := implNarrow 4607182418800017408 w (by omega)
    rwa [narrow_one] at this
  rw [nx] at NX
  rw [ny] at NY
  have la := narrow_lt x
  have lb := narrow_lt y
  have IX := fun w => implNarrow x w hx
  have IY := fun w => implNarrow y w hy
  have NA := fun w => fnan32_any (narrow x) w la
  have NB := fun w => fnan32_any (narrow y) w lb
  rw [narrow_nnan nx] at NA
  rw [narrow_nnan ny] at NB
  have C1 := fun w => fcmpS64_any x y w hx hy
  have C2 := fun w => fcmpS32_any (narrow x) (narrow y) w la lb
  rw [cmpS_key64 hx hy] at C1
  rw [cmpS_key32 la lb] at C2
  have ZA := fun w => fzero32_any (narrow x) w la
  have SA := fun w => fneg32_any (narrow x) w la
  have SX := fun w => fneg64_any x w hx
  rw [(narrow_parts nx).1] at SA
  have hm := fun h => narrow_mono (x := x) (y := y) nx ny h
  generalize neg64 x = ng at *
  have q2 : ordI (key32 (narrow x)) (key32 (narrow y)) = -1 ∨ ordI (key32 (narrow x)) (key32 (narrow y)) = 0 := by
    have h1 := ord_cases (key32 (narrow x)) (key32 (narrow y))
    have h2 := ord_le.mpr (hm ((ord_le (a := key64 x) (b := key64 y)).mp (by omega)))
    omega
  generalize ordI (key64 x) (key64 y) = o1 at *
  generalize ordI (key32 (narrow x)) (key32 (narrow y)) = o2 at *
  generalize isZero32 (narrow x) = z at *
  generalize narrow x = a at *
  generalize narrow y = b at *
  have wa : IntKind.u64.wrap (a : Int) = (a : Int) := wrap_u64_nat (by omega)
  have wb : IntKind.u64.wrap (b : Int) = (b : Int) := wrap_u64_nat (by omega)
  subst ho
  subst hz
  clear hm hx hy nx ny la lb
  clear SA SX
  rcases q2 with rfl | rfl
  · skip
    have NX := Lib.hid NX
    have NY := Lib.hid NY
    have NA := Lib.hid NA
    have NB := Lib.hid NB
    have IX := Lib.hid IX
    have IY := Lib.hid IY
    have C1 := Lib.hid C1
    have C2 := Lib.hid C2
    have ZA := Lib.hid ZA
    have B0 := Lib.hid (Below.refl w.heap.size w)
    go_enter Try.func12, Try.ntmps12
    go_wp2_with fail
    refine (fmt64_any _).mono ?_
    rintro e u1 ⟨rfl, hb⟩
    have B1 := Lib.hid (below_trans' B0.out hb)
    clear hb
    go_wp2_with fail
    refine (fmt32_any _).mono ?_
    rintro e u2 ⟨rfl, hb⟩
    have B2 := Lib.hid (below_trans' B1.out hb)
    clear hb
    have HS0 := Lib.hid (TWA.start0 u2)
    go_wp2_with fail
    refine (C.out _).mono ?_
    rintro e w' ⟨rfl, rfl⟩
    go_wp2_with fail
    refine (NX.out _).mono ?_
    rintro e v1 ⟨rfl, hb⟩
    have hs := TWA.step HS0.out hb
    have HS1 := Lib.hid hs
    clear hb
    obtain ⟨⟨c0, c1, c2, c3, c4, c5, c6⟩, d0, d1, d2, d3, d4, d5⟩ := hs
    clear c5 c6 d5
    go_wp2_with fail
    refine (NY.out _).mono ?_
    rintro e v2 ⟨rfl, hb⟩
    have hs := TWA.step HS1.out hb
    have HS2 := Lib.hid hs
    clear hb c0 c1 c2 c3 c4 d0 d1 d2 d3 d4
    obtain ⟨⟨c0, c1, c2, c3, c4, c5, c6⟩, d0, d1, d2, d3, d4, d5⟩ := hs
    clear c5 c6 d5
    go_wp2_with fail
    refine (IX.out _).mono ?_
    rintro e w' ⟨rfl, rfl⟩
    go_wp2_with fail
    refine (IY.out _).mono ?_
    rintro e w' ⟨rfl, rfl⟩
    go_wp2_with fail
    refine (NA.out _).mono ?_
    rintro e v3 ⟨rfl, hb⟩
    have hs := TWA.step HS2.out hb
    have HS3 := Lib.hid hs
    clear hb c0 c1 c2 c3 c4 d0 d1 d2 d3 d4
    obtain ⟨⟨c0, c1, c2, c3, c4, c5, c6⟩, d0, d1, d2, d3, d4, d5⟩ := hs
    clear c5 c6 d5
    go_wp2_with fail
    refine (NB.out _).mono ?_
    rintro e v4 ⟨rfl, hb⟩
    have hs := TWA.step HS3.out hb
    have HS4 := Lib.hid hs
    clear hb c0 c1 c2 c3 c4 d0 d1 d2 d3 d4
    obtain ⟨⟨c0, c1, c2, c3, c4, c5, c6⟩, d0, d1, d2, d3, d4, d5⟩ := hs
    clear c5 c6 d5
    have HD4 := Lib.hid (TWA.drew HS4.out)
    go_wp2_with fail
    refine wp_region_held_drew (S := fun w' => TWA u2 w') (by kernel_rfl) HD4.out (fun hHeld => ?_)
    refine' wpAnyH_take (i := 0) (oi := _) (v := _) rfl (by kernel_rfl) (by kernel_rfl) (by kernel_rfl) (fun _ _ _ h => h) (Or.inl ⟨by rfl, ?hy0⟩) (by assumption) ?rest0
    case hy0 =>
      intro w hSw
      (try dsimp only at hSw)
      go_simp
      (try with_reducible rfl)
    case rest0 =>
      try simp only [Act.put, List.getElem_toArray, List.getElem_cons_succ, List.getElem_cons_zero, List.setIfInBounds_toArray, List.set_cons_zero, List.set_cons_succ]
      refine' wpAnyH_take (i := 1) (oi := _) (v := _) rfl (by kernel_rfl) (by kernel_rfl) (by kernel_rfl) (fun _ _ _ h => h) (Or.inl ⟨by rfl, ?hy1⟩) (by assumption) ?rest1
      case hy1 =>
        intro w hSw
        (try dsimp only at hSw)
        go_simp
        (try with_reducible rfl)
      case rest1 =>
        try simp only [Act.put, List.getElem_toArray, List.getElem_cons_succ, List.getElem_cons_zero, List.setIfInBounds_toArray, List.set_cons_zero, List.set_cons_succ]
        refine' wpAnyH_take (i := 2) (oi := _) (v := _) rfl (by kernel_rfl) (by kernel_rfl) (by kernel_rfl) (fun _ _ _ h => h) (Or.inl ⟨by rfl, ?hy2⟩) (by assumption) ?rest2
        case hy2 =>
          intro w hSw
          (try dsimp only at hSw)
          go_simp
          (try with_reducible rfl)
        case rest2 =>
          try simp only [Act.put, List.getElem_toArray, List.getElem_cons_succ, List.getElem_cons_zero, List.setIfInBounds_toArray, List.set_cons_zero, List.set_cons_succ]
          refine wpAnyH_ready (rs := [3]) (by kernel_rfl) (by simp) ?_
          refine AllReadyH.cons (o := _) rfl (fun K hK => ?_) AllReadyH.nil
          go_simp
          go_at_call 24
          refine (C1.out _).mono ?_
          rintro e' q3 ⟨rfl, hb⟩
          have hs := TWA.step (w := u2) (by assumption) hb
          clear hb
          go_wp2_with fail
          refine hK.out _ _ ?_ (fun hHeld => ?_)
          · exact hs
          clear hK K
          try simp only [Act.put, List.getElem_toArray, List.getElem_cons_succ, List.getElem_cons_zero, List.setIfInBounds_toArray, List.set_cons_zero, List.set_cons_succ]
          refine' wpAnyH_take (i := 4) (oi := _) (v := _) rfl (by kernel_rfl) (by kernel_rfl) (by kernel_rfl) (fun _ _ _ h => h) (Or.inl ⟨by rfl, ?hy4⟩) (by assumption) ?rest4
          case hy4 =>
            intro w hSw
            (try dsimp only at hSw)
            go_simp
            (try with_reducible rfl)
          case rest4 =>
            try simp only [Act.put, List.getElem_toArray, List.getElem_cons_succ, List.getElem_cons_zero, List.setIfInBounds_toArray, List.set_cons_zero, List.set_cons_succ]
            refine' wpAnyH_take (i := 5) (oi := _) (v := _) rfl (by kernel_rfl) (by kernel_rfl) (by kernel_rfl) (fun _ _ _ h => h) (Or.inl ⟨by rfl, ?hy5⟩) (by assumption) ?rest5
            case hy5 =>
              intro w hSw
              (try dsimp only at hSw)
              go_simp
              (try with_reducible rfl)
            case rest5 =>
              try simp only [Act.put, List.getElem_toArray, List.getElem_cons_succ, List.getElem_cons_zero, List.setIfInBounds_toArray, List.set_cons_zero, List.set_cons_succ]
              refine' wpAnyH_take (i := 6) (oi := _) (v := _) rfl (by kernel_rfl) (by kernel_rfl) (by kernel_rfl) (fun _ _ _ h => h) (Or.inl ⟨by rfl, ?hy6⟩) (by assumption) ?rest6
              case hy6 =>
                intro w hSw
                (try dsimp only at hSw)
                go_simp
                (try with_reducible rfl)
              case rest6 =>
                try simp only [Act.put, List.getElem_toArray, List.getElem_cons_succ, List.getElem_cons_zero, List.setIfInBounds_toArray, List.set_cons_zero, List.set_cons_succ]
                refine' wpAnyH_take (i := 7) (oi := _) (v := _) rfl (by kernel_rfl) (by kernel_rfl) (by kernel_rfl) (fun _ _ _ h => h) (Or.inl ⟨by rfl, ?hy7⟩) (by assumption) ?rest7
                case hy7 =>
                  intro w hSw
                  (try dsimp only at hSw)
                  go_simp
                  (try with_reducible rfl)
                case rest7 =>
                  try simp only [Act.put, List.getElem_toArray, List.getElem_cons_succ, List.getElem_cons_zero, List.setIfInBounds_toArray, List.set_cons_zero, List.set_cons_succ]
                  refine' wpAnyH_take (i := 8) (oi := _) (v := _) rfl (by kernel_rfl) (by kernel_rfl) (by kernel_rfl) (fun _ _ _ h => h) (Or.inl ⟨by rfl, ?hy8⟩) (by assumption) ?rest8
                  case hy8 =>
                    intro w hSw
                    (try dsimp only at hSw)
                    go_simp
                    (try with_reducible rfl)
                  case rest8 =>
                    try simp only [Act.put, List.getElem_toArray, List.getElem_cons_succ, List.getElem_cons_zero, List.setIfInBounds_toArray, List.set_cons_zero, List.set_cons_succ]
                    refine wpAnyH_ready (rs := [9]) (by kernel_rfl) (by simp) ?_
                    refine AllReadyH.cons (o := _) rfl (fun K hK => ?_) AllReadyH.nil
                    go_simp
                    go_at_call 24
                    refine (C2.out _).mono ?_
                    rintro e' q9 ⟨rfl, hb⟩
                    have hs := TWA.step (w := u2) (by assumption) hb
                    clear hb
                    go_wp2_with fail
                    refine hK.out _ _ ?_ (fun hHeld => ?_)
                    · exact hs
                    clear hK K
                    try simp only [Act.put, List.getElem_toArray, List.getElem_cons_succ, List.getElem_cons_zero, List.setIfInBounds_toArray, List.set_cons_zero, List.set_cons_succ]
                    refine' wpAnyH_take (i := 10) (oi := _) (v := _) rfl (by kernel_rfl) (by kernel_rfl) (by kernel_rfl) (fun _ _ _ h => h) (Or.inl ⟨by rfl, ?hy10⟩) (by assumption) ?rest10
                    case hy10 =>
                      intro w hSw
                      (try dsimp only at hSw)
                      go_simp
                      (try with_reducible rfl)
                    case rest10 =>
                      try simp only [Act.put, List.getElem_toArray, List.getElem_cons_succ, List.getElem_cons_zero, List.setIfInBounds_toArray, List.set_cons_zero, List.set_cons_succ]
                      refine' wpAnyH_take (i := 11) (oi := _) (v := _) rfl (by kernel_rfl) (by kernel_rfl) (by kernel_rfl) (fun _ _ _ h => h) (Or.inl ⟨by rfl, ?hy11⟩) (by assumption) ?rest11
                      case hy11 =>
                        intro w hSw
                        (try dsimp only at hSw)
                        go_simp
                        (try with_reducible rfl)
                      case rest11 =>
                        try simp only [Act.put, List.getElem_toArray, List.getElem_cons_succ, List.getElem_cons_zero, List.setIfInBounds_toArray, List.set_cons_zero, List.set_cons_succ]
                        refine' wpAnyH_take (i := 12) (oi := _) (v := _) rfl (by kernel_rfl) (by kernel_rfl) (by kernel_rfl) (fun _ _ _ h => h) (Or.inl ⟨by rfl, ?hy12⟩) (by assumption) ?rest12
                        case hy12 =>
                          intro w hSw
                          (try dsimp only at hSw)
                          go_simp
                          (try with_reducible rfl)
                        case rest12 =>
                          try simp only [Act.put, List.getElem_toArray, List.getElem_cons_succ, List.getElem_cons_zero, List.setIfInBounds_toArray, List.set_cons_zero, List.set_cons_succ]
                          refine' wpAnyH_take (i := 13) (oi := _) (v := _) rfl (by kernel_rfl) (by kernel_rfl) (by kernel_rfl) (fun _ _ _ h => h) (Or.inl ⟨by rfl, ?hy13⟩) (by assumption) ?rest13
                          case hy13 =>
                            intro w hSw
                            (try dsimp only at hSw)
                            go_simp
                            (try with_reducible rfl)
                          case rest13 =>
                            try simp only [Act.put, List.getElem_toArray, List.getElem_cons_succ, List.getElem_cons_zero, List.setIfInBounds_toArray, List.set_cons_zero, List.set_cons_succ]
                            refine wpAnyH_ready (rs := [14]) (by kernel_rfl) (by simp) ?_
                            refine AllReadyH.cons (o := _) rfl (fun K hK => ?_) AllReadyH.nil
                            go_simp
                            go_at_call 32
                            refine (ZA.out _).mono ?_
                            rintro e' q14 ⟨rfl, hb⟩
                            have hs := TWA.step (w := u2) (by assumption) hb
                            clear hb
                            go_wp2_with fail
                            refine hK.out _ _ ?_ (fun hHeld => ?_)
                            · exact hs
                            clear hK K
                            try simp only [Act.put, List.getElem_toArray, List.getElem_cons_succ, List.getElem_cons_zero, List.setIfInBounds_toArray, List.set_cons_zero, List.set_cons_succ]
                            refine' wpAnyH_take (i := 15) (oi := _) (v := _) rfl (by kernel_rfl) (by kernel_rfl) (by kernel_rfl) (fun _ _ _ h => h) (Or.inl ⟨by rfl, ?hy15⟩) (by assumption) ?rest15
                            case hy15 =>
                              intro w hSw
                              (try dsimp only at hSw)
                              go_simp
                              (try with_reducible rfl)
                            case rest15 =>
                              try simp only [Act.put, List.getElem_toArray, List.getElem_cons_succ, List.getElem_cons_zero, List.setIfInBounds_toArray, List.set_cons_zero, List.set_cons_succ]
                              refine wpAnyH_take (i := 16) (oi := _) (v := undef) rfl (by kernel_rfl) (by kernel_rfl) (by kernel_rfl) (fun _ _ _ h => h) (Or.inr ⟨by simp [Region.wanted, yielded, undef], rfl⟩) (by assumption) ?_
                              try simp only [Act.put, List.getElem_toArray, List.getElem_cons_succ, List.getElem_cons_zero, List.setIfInBounds_toArray, List.set_cons_zero, List.set_cons_succ]
                              refine wpAnyH_take (i := 17) (oi := _) (v := undef) rfl (by kernel_rfl) (by kernel_rfl) (by kernel_rfl) (fun _ _ _ h => h) (Or.inr ⟨by simp [Region.wanted, yielded, undef], rfl⟩) (by assumption) ?_
                              try simp only [Act.put, List.getElem_toArray, List.getElem_cons_succ, List.getElem_cons_zero, List.setIfInBounds_toArray, List.set_cons_zero, List.set_cons_succ]
                              refine wpAnyH_take (i := 18) (oi := _) (v := undef) rfl (by kernel_rfl) (by kernel_rfl) (by kernel_rfl) (fun _ _ _ h => h) (Or.inr ⟨by simp [Region.wanted, yielded, undef], rfl⟩) (by assumption) ?_
                              try simp only [Act.put, List.getElem_toArray, List.getElem_cons_succ, List.getElem_cons_zero, List.setIfInBounds_toArray, List.set_cons_zero, List.set_cons_succ]
                              refine wpAnyH_take (i := 19) (oi := _) (v := undef) rfl (by kernel_rfl) (by kernel_rfl) (by kernel_rfl) (fun _ _ _ h => h) (Or.inr ⟨by simp [Region.wanted, yielded, undef], rfl⟩) (by assumption) ?_
                              try simp only [Act.put, List.getElem_toArray, List.getElem_cons_succ, List.getElem_cons_zero, List.setIfInBounds_toArray, List.set_cons_zero, List.set_cons_succ]
                              refine wpAnyH_take (i := 20) (oi := _) (v := undef) rfl (by kernel_rfl) (by kernel_rfl) (by kernel_rfl) (fun _ _ _ h => h) (Or.inr ⟨by simp [Region.wanted, yielded, undef], rfl⟩) (by assumption) ?_
                              try simp only [Act.put, List.getElem_toArray, List.getElem_cons_succ, List.getElem_cons_zero, List.setIfInBounds_toArray, List.set_cons_zero, List.set_cons_succ]
                              refine wpAnyH_take (i := 21) (oi := _) (v := undef) rfl (by kernel_rfl) (by kernel_rfl) (by kernel_rfl) (fun _ _ _ h => h) (Or.inr ⟨by simp [Region.wanted, yielded, undef], rfl⟩) (by assumption) ?_
                              try simp only [Act.put, List.getElem_toArray, List.getElem_cons_succ, List.getElem_cons_zero, List.setIfInBounds_toArray, List.set_cons_zero, List.set_cons_succ]
                              refine wpAnyH_take (i := 22) (oi := _) (v := undef) rfl (by kernel_rfl) (by kernel_rfl) (by kernel_rfl) (fun _ _ _ h => h) (Or.inr ⟨by simp [Region.wanted, yielded, undef], rfl⟩) (by assumption) ?_
                              try simp only [Act.put, List.getElem_toArray, List.getElem_cons_succ, List.getElem_cons_zero, List.setIfInBounds_toArray, List.set_cons_zero, List.set_cons_succ]
                              refine' wpAnyH_take (i := 23) (oi := _) (v := _) rfl (by kernel_rfl) (by kernel_rfl) (by kernel_rfl) (fun _ _ _ h => h) (Or.inl ⟨by simp [Region.wanted, yielded, undef], ?hy23⟩) (by assumption) ?rest23
                              case hy23 =>
                                intro w hSw
                                (try dsimp only at hSw)
                                go_simp
                                (try with_reducible rfl)
                              case rest23 =>
                                try simp only [Act.put, List.getElem_toArray, List.getElem_cons_succ, List.getElem_cons_zero, List.setIfInBounds_toArray, List.set_cons_zero, List.set_cons_succ]
                                refine' wpAnyH_take (i := 24) (oi := _) (v := _) rfl (by kernel_rfl) (by kernel_rfl) (by kernel_rfl) (fun _ _ _ h => h) (Or.inl ⟨by simp [Region.wanted, yielded, undef], ?hy24⟩) (by assumption) ?rest24
                                case hy24 =>
                                  intro w hSw
                                  (try dsimp only at hSw)
                                  go_simp
                                  (try with_reducible rfl)
                                case rest24 =>
                                  try simp only [Act.put, List.getElem_toArray, List.getElem_cons_succ, List.getElem_cons_zero, List.setIfInBounds_toArray, List.set_cons_zero, List.set_cons_succ]
                                  refine' wpAnyH_take (i := 25) (oi := _) (v := _) rfl (by kernel_rfl) (by kernel_rfl) (by kernel_rfl) (fun _ _ _ h => h) (Or.inl ⟨by simp [Region.wanted, yielded, undef], ?hy25⟩) (by assumption) ?rest25
                                  case hy25 =>
                                    intro w hSw
                                    (try dsimp only at hSw)
                                    go_simp
                                    (try with_reducible rfl)
                                  case rest25 =>
                                    try simp only [Act.put, List.getElem_toArray, List.getElem_cons_succ, List.getElem_cons_zero, List.setIfInBounds_toArray, List.set_cons_zero, List.set_cons_succ]
                                    refine' wpAnyH_take (i := 26) (oi := _) (v := _) rfl (by kernel_rfl) (by kernel_rfl) (by kernel_rfl) (fun _ _ _ h => h) (Or.inl ⟨by simp [Region.wanted, yielded, undef], ?hy26⟩) (by assumption) ?rest26
                                    case hy26 =>
                                      intro w hSw
                                      (try dsimp only at hSw)
                                      go_simp
                                      (try with_reducible rfl)
                                    case rest26 =>
                                      try simp only [Act.put, List.getElem_toArray, List.getElem_cons_succ, List.getElem_cons_zero, List.setIfInBounds_toArray, List.set_cons_zero, List.set_cons_succ]
                                      refine wpAnyH_done (by kernel_rfl) ?_ _
                                      go_wp2_with fail
                                      go_ret
                                      exact ⟨rfl, below_trans' B2.out (FB64.below (And.left (by assumption)))⟩
  · skip
    have NX := Lib.hid NX
    have NY := Lib.hid NY
    have NA := Lib.hid NA
    have NB := Lib.hid NB
    have IX := Lib.hid IX
    have IY := Lib.hid IY
    have C1 := Lib.hid C1
    have C2 := Lib.hid C2
    have ZA := Lib.hid ZA
    have B0 := Lib.hid (Below.refl w.heap.size w)
    go_enter Try.func12, Try.ntmps12
    go_wp2_with fail
    refine (fmt64_any _).mono ?_
    rintro e u1 ⟨rfl, hb⟩
    have B1 := Lib.hid (below_trans' B0.out hb)
    clear hb
    go_wp2_with fail
    refine (fmt32_any _).mono ?_
    rintro e u2 ⟨rfl, hb⟩
    have B2 := Lib.hid (below_trans' B1.out hb)
    clear hb
    have HS0 := Lib.hid (TWA.start0 u2)
    go_wp2_with fail
    refine (C.out _).mono ?_
    rintro e w' ⟨rfl, rfl⟩
    go_wp2_with fail
    refine (NX.out _).mono ?_
    rintro e v1 ⟨rfl, hb⟩
    have hs := TWA.step HS0.out hb
    have HS1 := Lib.hid hs
    clear hb
    obtain ⟨⟨c0, c1, c2, c3, c4, c5, c6⟩, d0, d1, d2, d3, d4, d5⟩ := hs
    clear c5 c6 d5
    go_wp2_with fail
    refine (NY.out _).mono ?_
    rintro e v2 ⟨rfl, hb⟩
    have hs := TWA.step HS1.out hb
    have HS2 := Lib.hid hs
    clear hb c0 c1 c2 c3 c4 d0 d1 d2 d3 d4
    obtain ⟨⟨c0, c1, c2, c3, c4, c5, c6⟩, d0, d1, d2, d3, d4, d5⟩ := hs
    clear c5 c6 d5
    go_wp2_with fail
    refine (IX.out _).mono ?_
    rintro e w' ⟨rfl, rfl⟩
    go_wp2_with fail
    refine (IY.out _).mono ?_
    rintro e w' ⟨rfl, rfl⟩
    go_wp2_with fail
    refine (NA.out _).mono ?_
    rintro e v3 ⟨rfl, hb⟩
    have hs := TWA.step HS2.out hb
    have HS3 := Lib.hid hs
    clear hb c0 c1 c2 c3 c4 d0 d1 d2 d3 d4
    obtain ⟨⟨c0, c1, c2, c3, c4, c5, c6⟩, d0, d1, d2, d3, d4, d5⟩ := hs
    clear c5 c6 d5
    go_wp2_with fail
    refine (NB.out _).mono ?_
    rintro e v4 ⟨rfl, hb⟩
    have hs := TWA.step HS3.out hb
    have HS4 := Lib.hid hs
    clear hb c0 c1 c2 c3 c4 d0 d1 d2 d3 d4
    obtain ⟨⟨c0, c1, c2, c3, c4, c5, c6⟩, d0, d1, d2, d3, d4, d5⟩ := hs
    clear c5 c6 d5
    have HD4 := Lib.hid (TWA.drew HS4.out)
    go_wp2_with fail
    refine wp_region_held_drew (S := fun w' => TWA u2 w') (by kernel_rfl) HD4.out (fun hHeld => ?_)
    refine' wpAnyH_take (i := 0) (oi := _) (v := _) rfl (by kernel_rfl) (by kernel_rfl) (by kernel_rfl) (fun _ _ _ h => h) (Or.inl ⟨by rfl, ?hy0⟩) (by assumption) ?rest0
    case hy0 =>
      intro w hSw
      (try dsimp only at hSw)
      go_simp
      (try with_reducible rfl)
    case rest0 =>
      try simp only [Act.put, List.getElem_toArray, List.getElem_cons_succ, List.getElem_cons_zero, List.setIfInBounds_toArray, List.set_cons_zero, List.set_cons_succ]
      refine' wpAnyH_take (i := 1) (oi := _) (v := _) rfl (by kernel_rfl) (by kernel_rfl) (by kernel_rfl) (fun _ _ _ h => h) (Or.inl ⟨by rfl, ?hy1⟩) (by assumption) ?rest1
      case hy1 =>
        intro w hSw
        (try dsimp only at hSw)
        go_simp
        (try with_reducible rfl)
      case rest1 =>
        try simp only [Act.put, List.getElem_toArray, List.getElem_cons_succ, List.getElem_cons_zero, List.setIfInBounds_toArray, List.set_cons_zero, List.set_cons_succ]
        refine' wpAnyH_take (i := 2) (oi := _) (v := _) rfl (by kernel_rfl) (by kernel_rfl) (by kernel_rfl) (fun _ _ _ h => h) (Or.inl ⟨by rfl, ?hy2⟩) (by assumption) ?rest2
        case hy2 =>
          intro w hSw
          (try dsimp only at hSw)
          go_simp
          (try with_reducible rfl)
        case rest2 =>
          try simp only [Act.put, List.getElem_toArray, List.getElem_cons_succ, List.getElem_cons_zero, List.setIfInBounds_toArray, List.set_cons_zero, List.set_cons_succ]
          refine wpAnyH_ready (rs := [3]) (by kernel_rfl) (by simp) ?_
          refine AllReadyH.cons (o := _) rfl (fun K hK => ?_) AllReadyH.nil
          go_simp
          go_at_call 24
          refine (C1.out _).mono ?_
          rintro e' q3 ⟨rfl, hb⟩
          have hs := TWA.step (w := u2) (by assumption) hb
          clear hb
          go_wp2_with fail
          refine hK.out _ _ ?_ (fun hHeld => ?_)
          · exact hs
          clear hK K
          try simp only [Act.put, List.getElem_toArray, List.getElem_cons_succ, List.getElem_cons_zero, List.setIfInBounds_toArray, List.set_cons_zero, List.set_cons_succ]
          refine' wpAnyH_take (i := 4) (oi := _) (v := _) rfl (by kernel_rfl) (by kernel_rfl) (by kernel_rfl) (fun _ _ _ h => h) (Or.inl ⟨by rfl, ?hy4⟩) (by assumption) ?rest4
          case hy4 =>
            intro w hSw
            (try dsimp only at hSw)
            go_simp
            (try with_reducible rfl)
          case rest4 =>
            try simp only [Act.put, List.getElem_toArray, List.getElem_cons_succ, List.getElem_cons_zero, List.setIfInBounds_toArray, List.set_cons_zero, List.set_cons_succ]
            refine' wpAnyH_take (i := 5) (oi := _) (v := _) rfl (by kernel_rfl) (by kernel_rfl) (by kernel_rfl) (fun _ _ _ h => h) (Or.inl ⟨by rfl, ?hy5⟩) (by assumption) ?rest5
            case hy5 =>
              intro w hSw
              (try dsimp only at hSw)
              go_simp
              (try with_reducible rfl)
            case rest5 =>
              try simp only [Act.put, List.getElem_toArray, List.getElem_cons_succ, List.getElem_cons_zero, List.setIfInBounds_toArray, List.set_cons_zero, List.set_cons_succ]
              refine' wpAnyH_take (i := 6) (oi := _) (v := _) rfl (by kernel_rfl) (by kernel_rfl) (by kernel_rfl) (fun _ _ _ h => h) (Or.inl ⟨by rfl, ?hy6⟩) (by assumption) ?rest6
              case hy6 =>
                intro w hSw
                (try dsimp only at hSw)
                go_simp
                (try with_reducible rfl)
              case rest6 =>
                try simp only [Act.put, List.getElem_toArray, List.getElem_cons_succ, List.getElem_cons_zero, List.setIfInBounds_toArray, List.set_cons_zero, List.set_cons_succ]
                refine' wpAnyH_take (i := 7) (oi := _) (v := _) rfl (by kernel_rfl) (by kernel_rfl) (by kernel_rfl) (fun _ _ _ h => h) (Or.inl ⟨by rfl, ?hy7⟩) (by assumption) ?rest7
                case hy7 =>
                  intro w hSw
                  (try dsimp only at hSw)
                  go_simp
                  (try with_reducible rfl)
                case rest7 =>
                  try simp only [Act.put, List.getElem_toArray, List.getElem_cons_succ, List.getElem_cons_zero, List.setIfInBounds_toArray, List.set_cons_zero, List.set_cons_succ]
                  refine' wpAnyH_take (i := 8) (oi := _) (v := _) rfl (by kernel_rfl) (by kernel_rfl) (by kernel_rfl) (fun _ _ _ h => h) (Or.inl ⟨by rfl, ?hy8⟩) (by assumption) ?rest8
                  case hy8 =>
                    intro w hSw
                    (try dsimp only at hSw)
                    go_simp
                    (try with_reducible rfl)
                  case rest8 =>
                    try simp only [Act.put, List.getElem_toArray, List.getElem_cons_succ, List.getElem_cons_zero, List.setIfInBounds_toArray, List.set_cons_zero, List.set_cons_succ]
                    refine wpAnyH_ready (rs := [9]) (by kernel_rfl) (by simp) ?_
                    refine AllReadyH.cons (o := _) rfl (fun K hK => ?_) AllReadyH.nil
                    go_simp
                    go_at_call 24
                    refine (C2.out _).mono ?_
                    rintro e' q9 ⟨rfl, hb⟩
                    have hs := TWA.step (w := u2) (by assumption) hb
                    clear hb
                    go_wp2_with fail
                    refine hK.out _ _ ?_ (fun hHeld => ?_)
                    · exact hs
                    clear hK K
                    try simp only [Act.put, List.getElem_toArray, List.getElem_cons_succ, List.getElem_cons_zero, List.setIfInBounds_toArray, List.set_cons_zero, List.set_cons_succ]
                    refine' wpAnyH_take (i := 10) (oi := _) (v := _) rfl (by kernel_rfl) (by kernel_rfl) (by kernel_rfl) (fun _ _ _ h => h) (Or.inl ⟨by rfl, ?hy10⟩) (by assumption) ?rest10
                    case hy10 =>
                      intro w hSw
                      (try dsimp only at hSw)
                      go_simp
                      (try with_reducible rfl)
                    case rest10 =>
                      try simp only [Act.put, List.getElem_toArray, List.getElem_cons_succ, List.getElem_cons_zero, List.setIfInBounds_toArray, List.set_cons_zero, List.set_cons_succ]
                      refine' wpAnyH_take (i := 11) (oi := _) (v := _) rfl (by kernel_rfl) (by kernel_rfl) (by kernel_rfl) (fun _ _ _ h => h) (Or.inl ⟨by rfl, ?hy11⟩) (by assumption) ?rest11
                      case hy11 =>
                        intro w hSw
                        (try dsimp only at hSw)
                        go_simp
                        (try with_reducible rfl)
                      case rest11 =>
                        try simp only [Act.put, List.getElem_toArray, List.getElem_cons_succ, List.getElem_cons_zero, List.setIfInBounds_toArray, List.set_cons_zero, List.set_cons_succ]
                        refine' wpAnyH_take (i := 12) (oi := _) (v := _) rfl (by kernel_rfl) (by kernel_rfl) (by kernel_rfl) (fun _ _ _ h => h) (Or.inl ⟨by rfl, ?hy12⟩) (by assumption) ?rest12
                        case hy12 =>
                          intro w hSw
                          (try dsimp only at hSw)
                          go_simp
                          (try with_reducible rfl)
                        case rest12 =>
                          try simp only [Act.put, List.getElem_toArray, List.getElem_cons_succ, List.getElem_cons_zero, List.setIfInBounds_toArray, List.set_cons_zero, List.set_cons_succ]
                          refine' wpAnyH_take (i := 13) (oi := _) (v := _) rfl (by kernel_rfl) (by kernel_rfl) (by kernel_rfl) (fun _ _ _ h => h) (Or.inl ⟨by rfl, ?hy13⟩) (by assumption) ?rest13
                          case hy13 =>
                            intro w hSw
                            (try dsimp only at hSw)
                            go_simp
                            (try with_reducible rfl)
                          case rest13 =>
                            try simp only [Act.put, List.getElem_toArray, List.getElem_cons_succ, List.getElem_cons_zero, List.setIfInBounds_toArray, List.set_cons_zero, List.set_cons_succ]
                            refine wpAnyH_ready (rs := [14]) (by kernel_rfl) (by simp) ?_
                            refine AllReadyH.cons (o := _) rfl (fun K hK => ?_) AllReadyH.nil
                            go_simp
                            go_at_call 32
                            refine (ZA.out _).mono ?_
                            rintro e' q14 ⟨rfl, hb⟩
                            have hs := TWA.step (w := u2) (by assumption) hb
                            clear hb
                            go_wp2_with fail
                            refine hK.out _ _ ?_ (fun hHeld => ?_)
                            · exact hs
                            clear hK K
                            try simp only [Act.put, List.getElem_toArray, List.getElem_cons_succ, List.getElem_cons_zero, List.setIfInBounds_toArray, List.set_cons_zero, List.set_cons_succ]
                            refine' wpAnyH_take (i := 15) (oi := _) (v := _) rfl (by kernel_rfl) (by kernel_rfl) (by kernel_rfl) (fun _ _ _ h => h) (Or.inl ⟨by rfl, ?hy15⟩) (by assumption) ?rest15
                            case hy15 =>
                              intro w hSw
                              (try dsimp only at hSw)
                              go_simp
                              (try with_reducible rfl)
                            case rest15 =>
                              try simp only [Act.put, List.getElem_toArray, List.getElem_cons_succ, List.getElem_cons_zero, List.setIfInBounds_toArray, List.set_cons_zero, List.set_cons_succ]
                              refine wpAnyH_take (i := 16) (oi := _) (v := undef) rfl (by kernel_rfl) (by kernel_rfl) (by kernel_rfl) (fun _ _ _ h => h) (Or.inr ⟨by simp [Region.wanted, yielded, undef], rfl⟩) (by assumption) ?_
                              try simp only [Act.put, List.getElem_toArray, List.getElem_cons_succ, List.getElem_cons_zero, List.setIfInBounds_toArray, List.set_cons_zero, List.set_cons_succ]
                              refine wpAnyH_take (i := 17) (oi := _) (v := undef) rfl (by kernel_rfl) (by kernel_rfl) (by kernel_rfl) (fun _ _ _ h => h) (Or.inr ⟨by simp [Region.wanted, yielded, undef], rfl⟩) (by assumption) ?_
                              try simp only [Act.put, List.getElem_toArray, List.getElem_cons_succ, List.getElem_cons_zero, List.setIfInBounds_toArray, List.set_cons_zero, List.set_cons_succ]
                              refine wpAnyH_take (i := 18) (oi := _) (v := undef) rfl (by kernel_rfl) (by kernel_rfl) (by kernel_rfl) (fun _ _ _ h => h) (Or.inr ⟨by simp [Region.wanted, yielded, undef], rfl⟩) (by assumption) ?_
                              try simp only [Act.put, List.getElem_toArray, List.getElem_cons_succ, List.getElem_cons_zero, List.setIfInBounds_toArray, List.set_cons_zero, List.set_cons_succ]
                              refine wpAnyH_take (i := 19) (oi := _) (v := undef) rfl (by kernel_rfl) (by kernel_rfl) (by kernel_rfl) (fun _ _ _ h => h) (Or.inr ⟨by simp [Region.wanted, yielded, undef], rfl⟩) (by assumption) ?_
                              try simp only [Act.put, List.getElem_toArray, List.getElem_cons_succ, List.getElem_cons_zero, List.setIfInBounds_toArray, List.set_cons_zero, List.set_cons_succ]
                              refine wpAnyH_take (i := 20) (oi := _) (v := undef) rfl (by kernel_rfl) (by kernel_rfl) (by kernel_rfl) (fun _ _ _ h => h) (Or.inr ⟨by simp [Region.wanted, yielded, undef], rfl⟩) (by assumption) ?_
                              try simp only [Act.put, List.getElem_toArray, List.getElem_cons_succ, List.getElem_cons_zero, List.setIfInBounds_toArray, List.set_cons_zero, List.set_cons_succ]
                              refine wpAnyH_take (i := 21) (oi := _) (v := undef) rfl (by kernel_rfl) (by kernel_rfl) (by kernel_rfl) (fun _ _ _ h => h) (Or.inr ⟨by simp [Region.wanted, yielded, undef], rfl⟩) (by assumption) ?_
                              try simp only [Act.put, List.getElem_toArray, List.getElem_cons_succ, List.getElem_cons_zero, List.setIfInBounds_toArray, List.set_cons_zero, List.set_cons_succ]
                              refine wpAnyH_take (i := 22) (oi := _) (v := undef) rfl (by kernel_rfl) (by kernel_rfl) (by kernel_rfl) (fun _ _ _ h => h) (Or.inr ⟨by simp [Region.wanted, yielded, undef], rfl⟩) (by assumption) ?_
                              try simp only [Act.put, List.getElem_toArray, List.getElem_cons_succ, List.getElem_cons_zero, List.setIfInBounds_toArray, List.set_cons_zero, List.set_cons_succ]
                              refine' wpAnyH_take (i := 23) (oi := _) (v := _) rfl (by kernel_rfl) (by kernel_rfl) (by kernel_rfl) (fun _ _ _ h => h) (Or.inl ⟨by simp [Region.wanted, yielded, undef], ?hy23⟩) (by assumption) ?rest23
                              case hy23 =>
                                intro w hSw
                                (try dsimp only at hSw)
                                go_simp
                                (try with_reducible rfl)
                              case rest23 =>
                                try simp only [Act.put, List.getElem_toArray, List.getElem_cons_succ, List.getElem_cons_zero, List.setIfInBounds_toArray, List.set_cons_zero, List.set_cons_succ]
                                refine' wpAnyH_take (i := 24) (oi := _) (v := _) rfl (by kernel_rfl) (by kernel_rfl) (by kernel_rfl) (fun _ _ _ h => h) (Or.inl ⟨by simp [Region.wanted, yielded, undef], ?hy24⟩) (by assumption) ?rest24
                                case hy24 =>
                                  intro w hSw
                                  (try dsimp only at hSw)
                                  go_simp
                                  (try with_reducible rfl)
                                case rest24 =>
                                  try simp only [Act.put, List.getElem_toArray, List.getElem_cons_succ, List.getElem_cons_zero, List.setIfInBounds_toArray, List.set_cons_zero, List.set_cons_succ]
                                  refine' wpAnyH_take (i := 25) (oi := _) (v := _) rfl (by kernel_rfl) (by kernel_rfl) (by kernel_rfl) (fun _ _ _ h => h) (Or.inl ⟨by simp [Region.wanted, yielded, undef], ?hy25⟩) (by assumption) ?rest25
                                  case hy25 =>
                                    intro w hSw
                                    (try dsimp only at hSw)
                                    go_simp
                                    (try with_reducible rfl)
                                  case rest25 =>
                                    try simp only [Act.put, List.getElem_toArray, List.getElem_cons_succ, List.getElem_cons_zero, List.setIfInBounds_toArray, List.set_cons_zero, List.set_cons_succ]
                                    refine' wpAnyH_take (i := 26) (oi := _) (v := _) rfl (by kernel_rfl) (by kernel_rfl) (by kernel_rfl) (fun _ _ _ h => h) (Or.inl ⟨by simp [Region.wanted, yielded, undef], ?hy26⟩) (by assumption) ?rest26
                                    case hy26 =>
                                      intro w hSw
                                      (try dsimp only at hSw)
                                      go_simp
                                      (try with_reducible rfl)
                                    case rest26 =>
                                      try simp only [Act.put, List.getElem_toArray, List.getElem_cons_succ, List.getElem_cons_zero, List.setIfInBounds_toArray, List.set_cons_zero, List.set_cons_succ]
                                      refine wpAnyH_done (by kernel_rfl) ?_ _
                                      go_wp2_with fail
                                      go_ret
                                      exact ⟨rfl, below_trans' B2.out (FB64.below (And.left (by assumption)))⟩
end Go.Proofs.Ytdadcbjhjmdheaa.SF
