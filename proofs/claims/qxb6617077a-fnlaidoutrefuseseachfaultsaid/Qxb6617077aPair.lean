import Derived.Test.Qxb6617077aFaultB
import Derived.Test.Qxb6617077aFaultC
import Derived.Test.Qxb6617077aFlip
namespace Go.Proofs.Qxb6617077a
open Go.RowKit
set_option linter.unusedVariables false
set_option linter.unusedSimpArgs false

theorem pair_0 (rsz rrp rver rep rrm : Int) (rsha rmd rwr : ByteArray) (ra : Option Addr) (rn rc : Nat) (rdm rpt : Bool) (nad : ByteArray) (nre nhe : Bool) (nfr : Int) (nsz nrp nver nep nrm : Int) (nsha nmd nwr : ByteArray) (na : Option Addr) (nn nc : Nat) (ndm npt : Bool) (hcl hh pv kv : Value) (addr : ByteArray) (H P : List ByteArray) (w : World) (hC : SL w hcl H) (hH : SL w hh H) (hP : SL w pv P) (hK : SL w kv (H ++ P)) (hHl : H.length ≤ 1000) (hPl : P.length ≤ 1000) (HS : Hid (∀ s ∈ H ++ P, s.size ≤ maxLen)) (hin : Hid (addr ∈ H ++ P)) (ip : Bool) (hip : Hid (mem P addr = ip)) :
    Calls Try.prog 32 #[.agg #[.int .i64 rsz, .string rsha, .string rmd, .int .i64 rrp, .slice ra rn rc, .int .i64 rver, .int .i64 rep, .int .i64 rrm, .string rwr, .bool rdm, .bool rpt], hcl, pv, kv, .string addr, .int .i64 0, .agg #[.string nad, .bool nre, .bool nhe, .int .i64 nsz, .string nsha, .string nmd, .int .i64 nrp, .slice na nn nc, .int .i64 nver, .int .i64 nep, .int .i64 nrm, .string nwr, .bool ndm, .bool npt, .int .i64 nfr]] w fun e w1 => ∃ m : Nat, e = .returned (.map (some m)) ∧ Below w.heap.size w w1 ∧
      Calls Try.prog 29 #[.agg #[.int .i64 rsz, .string rsha, .string rmd, .int .i64 rrp, .slice ra rn rc, .int .i64 rver, .int .i64 rep, .int .i64 rrm, .string rwr, .bool rdm, .bool rpt], .agg #[hh, pv], .map (some m)] w1 fun e w2 => e = .returned (.bool true) ∧ Below w1.heap.size w1 w2 := by
  obtain ⟨ha, hc, rfl⟩ := hC.slice
  refine (fault32_0 _ _ _ _ _ _ _ _ _ _ _ _ _ _ _ _ _ _ _ _ _ _ _ _ _ _ _ _ _ _ _ pv kv addr H P (H ++ P) w hC hP hK hHl hPl (by rw [List.length_append]; omega) HS.out (HS.out _ hin.out) ha hc rfl ip hip.out).mono ?_
  rintro e w1 ⟨m, x, rfl, hM, ⟨e1, e2, e3, e4, e5⟩, hx, hb⟩
  refine ⟨m, rfl, hb, ?_⟩
  have hM' : MapIs w1 m ((H ++ P).length + 1) (fun s => (updA (idealF rver rep ha H.length hc P (H ++ P)) addr (some x) s).map Ans.val) := by rw [updA_val]; exact hM
  refine (laid29 _ _ _ _ _ _ _ _ _ _ _ _ _ hh pv H P m _ _ (updL H (H) addr) w1 (hH.below hb (Nat.le_refl _)) (hP.below hb (Nat.le_refl _)) (by omega) hM' (reads_one (hC.below hb (Nat.le_refl _)) hx) HS.out).mono ?_
  rintro e w2 ⟨rfl, hb2⟩
  refine ⟨?_, hb2⟩
  rw [all_one _ _ _ _ _ _ _ _ _ _ hin.out]
  refine ret_bool ?_
  rw [hip.out, Option.getD_some, e1, e2, e3, e4, e5]
  cases ip <;> simp [okB, holdsB, sameL_self, sameL_more, flip_ne]

theorem pair_1 (rsz rrp rver rep rrm : Int) (rsha rmd rwr : ByteArray) (ra : Option Addr) (rn rc : Nat) (rdm rpt : Bool) (nad : ByteArray) (nre nhe : Bool) (nfr : Int) (nsz nrp nver nep nrm : Int) (nsha nmd nwr : ByteArray) (na : Option Addr) (nn nc : Nat) (ndm npt : Bool) (hcl hh pv kv : Value) (addr : ByteArray) (H P : List ByteArray) (w : World) (hC : SL w hcl H) (hH : SL w hh H) (hP : SL w pv P) (hK : SL w kv (H ++ P)) (hHl : H.length ≤ 1000) (hPl : P.length ≤ 1000) (HS : Hid (∀ s ∈ H ++ P, s.size ≤ maxLen)) (hin : Hid (addr ∈ H ++ P)) (ip : Bool) (hip : Hid (mem P addr = ip)) :
    Calls Try.prog 32 #[.agg #[.int .i64 rsz, .string rsha, .string rmd, .int .i64 rrp, .slice ra rn rc, .int .i64 rver, .int .i64 rep, .int .i64 rrm, .string rwr, .bool rdm, .bool rpt], hcl, pv, kv, .string addr, .int .i64 1, .agg #[.string nad, .bool nre, .bool nhe, .int .i64 nsz, .string nsha, .string nmd, .int .i64 nrp, .slice na nn nc, .int .i64 nver, .int .i64 nep, .int .i64 nrm, .string nwr, .bool ndm, .bool npt, .int .i64 nfr]] w fun e w1 => ∃ m : Nat, e = .returned (.map (some m)) ∧ Below w.heap.size w w1 ∧
      Calls Try.prog 29 #[.agg #[.int .i64 rsz, .string rsha, .string rmd, .int .i64 rrp, .slice ra rn rc, .int .i64 rver, .int .i64 rep, .int .i64 rrm, .string rwr, .bool rdm, .bool rpt], .agg #[hh, pv], .map (some m)] w1 fun e w2 => e = .returned (.bool false) ∧ Below w1.heap.size w1 w2 := by
  obtain ⟨ha, hc, rfl⟩ := hC.slice
  refine (fault32_1 _ _ _ _ _ _ _ _ _ _ _ _ _ _ _ _ _ _ _ _ _ _ _ _ _ _ _ _ _ _ _ pv kv addr H P (H ++ P) w hC hP hK hHl hPl (by rw [List.length_append]; omega) HS.out (HS.out _ hin.out) ha hc rfl).mono ?_
  rintro e w1 ⟨m, rfl, hM, hb⟩
  refine ⟨m, rfl, hb, ?_⟩
  have hM' : MapIs w1 m (H ++ P).length (fun s => (updA (idealF rver rep ha H.length hc P (H ++ P)) addr none s).map Ans.val) := by rw [updA_val]; exact hM
  refine (laid29 _ _ _ _ _ _ _ _ _ _ _ _ _ hh pv H P m _ _ (updL H [] addr) w1 (hH.below hb (Nat.le_refl _)) (hP.below hb (Nat.le_refl _)) (by omega) hM' (reads_one (hC.below hb (Nat.le_refl _)) (SL.nil _)) HS.out).mono ?_
  rintro e w2 ⟨rfl, hb2⟩
  refine ⟨?_, hb2⟩
  rw [all_one _ _ _ _ _ _ _ _ _ _ hin.out]
  rfl

theorem pair_2 (rsz rrp rver rep rrm : Int) (rsha rmd rwr : ByteArray) (ra : Option Addr) (rn rc : Nat) (rdm rpt : Bool) (nad : ByteArray) (nre nhe : Bool) (nfr : Int) (nsz nrp nver nep nrm : Int) (nsha nmd nwr : ByteArray) (na : Option Addr) (nn nc : Nat) (ndm npt : Bool) (hcl hh pv kv : Value) (addr : ByteArray) (H P : List ByteArray) (w : World) (hC : SL w hcl H) (hH : SL w hh H) (hP : SL w pv P) (hK : SL w kv (H ++ P)) (hHl : H.length ≤ 1000) (hPl : P.length ≤ 1000) (HS : Hid (∀ s ∈ H ++ P, s.size ≤ maxLen)) (hin : Hid (addr ∈ H ++ P)) (ip : Bool) (hip : Hid (mem P addr = ip)) :
    Calls Try.prog 32 #[.agg #[.int .i64 rsz, .string rsha, .string rmd, .int .i64 rrp, .slice ra rn rc, .int .i64 rver, .int .i64 rep, .int .i64 rrm, .string rwr, .bool rdm, .bool rpt], hcl, pv, kv, .string addr, .int .i64 2, .agg #[.string nad, .bool nre, .bool nhe, .int .i64 nsz, .string nsha, .string nmd, .int .i64 nrp, .slice na nn nc, .int .i64 nver, .int .i64 nep, .int .i64 nrm, .string nwr, .bool ndm, .bool npt, .int .i64 nfr]] w fun e w1 => ∃ m : Nat, e = .returned (.map (some m)) ∧ Below w.heap.size w w1 ∧
      Calls Try.prog 29 #[.agg #[.int .i64 rsz, .string rsha, .string rmd, .int .i64 rrp, .slice ra rn rc, .int .i64 rver, .int .i64 rep, .int .i64 rrm, .string rwr, .bool rdm, .bool rpt], .agg #[hh, pv], .map (some m)] w1 fun e w2 => e = .returned (.bool false) ∧ Below w1.heap.size w1 w2 := by
  obtain ⟨ha, hc, rfl⟩ := hC.slice
  refine (fault32_2 _ _ _ _ _ _ _ _ _ _ _ _ _ _ _ _ _ _ _ _ _ _ _ _ _ _ _ _ _ _ _ pv kv addr H P (H ++ P) w hC hP hK hHl hPl (by rw [List.length_append]; omega) HS.out (HS.out _ hin.out) ha hc rfl ip hip.out).mono ?_
  rintro e w1 ⟨m, x, rfl, hM, ⟨e1, e2, e3, e4, e5⟩, hx, hb⟩
  refine ⟨m, rfl, hb, ?_⟩
  have hM' : MapIs w1 m ((H ++ P).length + 1) (fun s => (updA (idealF rver rep ha H.length hc P (H ++ P)) addr (some x) s).map Ans.val) := by rw [updA_val]; exact hM
  refine (laid29 _ _ _ _ _ _ _ _ _ _ _ _ _ hh pv H P m _ _ (updL H (H) addr) w1 (hH.below hb (Nat.le_refl _)) (hP.below hb (Nat.le_refl _)) (by omega) hM' (reads_one (hC.below hb (Nat.le_refl _)) hx) HS.out).mono ?_
  rintro e w2 ⟨rfl, hb2⟩
  refine ⟨?_, hb2⟩
  rw [all_one _ _ _ _ _ _ _ _ _ _ hin.out]
  refine ret_bool ?_
  rw [hip.out, Option.getD_some, e1, e2, e3, e4, e5]
  cases ip <;> simp [okB, holdsB, sameL_self, sameL_more, flip_ne]

theorem pair_3 (rsz rrp rver rep rrm : Int) (rsha rmd rwr : ByteArray) (ra : Option Addr) (rn rc : Nat) (rdm rpt : Bool) (nad : ByteArray) (nre nhe : Bool) (nfr : Int) (nsz nrp nver nep nrm : Int) (nsha nmd nwr : ByteArray) (na : Option Addr) (nn nc : Nat) (ndm npt : Bool) (hcl hh pv kv : Value) (addr : ByteArray) (H P : List ByteArray) (w : World) (hC : SL w hcl H) (hH : SL w hh H) (hP : SL w pv P) (hK : SL w kv (H ++ P)) (hHl : H.length ≤ 1000) (hPl : P.length ≤ 1000) (HS : Hid (∀ s ∈ H ++ P, s.size ≤ maxLen)) (hin : Hid (addr ∈ H ++ P)) (ip : Bool) (hip : Hid (mem P addr = ip)) :
    Calls Try.prog 32 #[.agg #[.int .i64 rsz, .string rsha, .string rmd, .int .i64 rrp, .slice ra rn rc, .int .i64 rver, .int .i64 rep, .int .i64 rrm, .string rwr, .bool rdm, .bool rpt], hcl, pv, kv, .string addr, .int .i64 3, .agg #[.string nad, .bool nre, .bool nhe, .int .i64 nsz, .string nsha, .string nmd, .int .i64 nrp, .slice na nn nc, .int .i64 nver, .int .i64 nep, .int .i64 nrm, .string nwr, .bool ndm, .bool npt, .int .i64 nfr]] w fun e w1 => ∃ m : Nat, e = .returned (.map (some m)) ∧ Below w.heap.size w w1 ∧
      Calls Try.prog 29 #[.agg #[.int .i64 rsz, .string rsha, .string rmd, .int .i64 rrp, .slice ra rn rc, .int .i64 rver, .int .i64 rep, .int .i64 rrm, .string rwr, .bool rdm, .bool rpt], .agg #[hh, pv], .map (some m)] w1 fun e w2 => e = .returned (.bool false) ∧ Below w1.heap.size w1 w2 := by
  obtain ⟨ha, hc, rfl⟩ := hC.slice
  refine (fault32_3 _ _ _ _ _ _ _ _ _ _ _ _ _ _ _ _ _ _ _ _ _ _ _ _ _ _ _ _ _ _ _ pv kv addr H P (H ++ P) w hC hP hK hHl hPl (by rw [List.length_append]; omega) HS.out (HS.out _ hin.out) ha hc rfl ip hip.out).mono ?_
  rintro e w1 ⟨m, x, rfl, hM, ⟨e1, e2, e3, e4, e5⟩, hx, hb⟩
  refine ⟨m, rfl, hb, ?_⟩
  have hM' : MapIs w1 m ((H ++ P).length + 1) (fun s => (updA (idealF rver rep ha H.length hc P (H ++ P)) addr (some x) s).map Ans.val) := by rw [updA_val]; exact hM
  refine (laid29 _ _ _ _ _ _ _ _ _ _ _ _ _ hh pv H P m _ _ (updL H (H) addr) w1 (hH.below hb (Nat.le_refl _)) (hP.below hb (Nat.le_refl _)) (by omega) hM' (reads_one (hC.below hb (Nat.le_refl _)) hx) HS.out).mono ?_
  rintro e w2 ⟨rfl, hb2⟩
  refine ⟨?_, hb2⟩
  rw [all_one _ _ _ _ _ _ _ _ _ _ hin.out]
  refine ret_bool ?_
  rw [hip.out, Option.getD_some, e1, e2, e3, e4, e5]
  cases ip <;> simp [okB, holdsB, sameL_self, sameL_more, flip_ne]

theorem pair_4 (rsz rrp rver rep rrm : Int) (rsha rmd rwr : ByteArray) (ra : Option Addr) (rn rc : Nat) (rdm rpt : Bool) (nad : ByteArray) (nre nhe : Bool) (nfr : Int) (nsz nrp nver nep nrm : Int) (nsha nmd nwr : ByteArray) (na : Option Addr) (nn nc : Nat) (ndm npt : Bool) (hcl hh pv kv : Value) (addr : ByteArray) (H P : List ByteArray) (w : World) (hC : SL w hcl H) (hH : SL w hh H) (hP : SL w pv P) (hK : SL w kv (H ++ P)) (hHl : H.length ≤ 1000) (hPl : P.length ≤ 1000) (HS : Hid (∀ s ∈ H ++ P, s.size ≤ maxLen)) (hin : Hid (addr ∈ H ++ P)) (ip : Bool) (hip : Hid (mem P addr = ip)) :
    Calls Try.prog 32 #[.agg #[.int .i64 rsz, .string rsha, .string rmd, .int .i64 rrp, .slice ra rn rc, .int .i64 rver, .int .i64 rep, .int .i64 rrm, .string rwr, .bool rdm, .bool rpt], hcl, pv, kv, .string addr, .int .i64 4, .agg #[.string nad, .bool nre, .bool nhe, .int .i64 nsz, .string nsha, .string nmd, .int .i64 nrp, .slice na nn nc, .int .i64 nver, .int .i64 nep, .int .i64 nrm, .string nwr, .bool ndm, .bool npt, .int .i64 nfr]] w fun e w1 => ∃ m : Nat, e = .returned (.map (some m)) ∧ Below w.heap.size w w1 ∧
      Calls Try.prog 29 #[.agg #[.int .i64 rsz, .string rsha, .string rmd, .int .i64 rrp, .slice ra rn rc, .int .i64 rver, .int .i64 rep, .int .i64 rrm, .string rwr, .bool rdm, .bool rpt], .agg #[hh, pv], .map (some m)] w1 fun e w2 => e = .returned (.bool false) ∧ Below w1.heap.size w1 w2 := by
  obtain ⟨ha, hc, rfl⟩ := hC.slice
  refine (fault32_4 _ _ _ _ _ _ _ _ _ _ _ _ _ _ _ _ _ _ _ _ _ _ _ _ _ _ _ _ _ _ _ pv kv addr H P (H ++ P) w hC hP hK hHl hPl (by rw [List.length_append]; omega) HS.out (HS.out _ hin.out) ha hc rfl ip hip.out).mono ?_
  rintro e w1 ⟨m, x, rfl, hM, ⟨e1, e2, e3, e4, e5⟩, hx, hb⟩
  refine ⟨m, rfl, hb, ?_⟩
  have hM' : MapIs w1 m ((H ++ P).length + 1) (fun s => (updA (idealF rver rep ha H.length hc P (H ++ P)) addr (some x) s).map Ans.val) := by rw [updA_val]; exact hM
  refine (laid29 _ _ _ _ _ _ _ _ _ _ _ _ _ hh pv H P m _ _ (updL H (H) addr) w1 (hH.below hb (Nat.le_refl _)) (hP.below hb (Nat.le_refl _)) (by omega) hM' (reads_one (hC.below hb (Nat.le_refl _)) hx) HS.out).mono ?_
  rintro e w2 ⟨rfl, hb2⟩
  refine ⟨?_, hb2⟩
  rw [all_one _ _ _ _ _ _ _ _ _ _ hin.out]
  refine ret_bool ?_
  rw [hip.out, Option.getD_some, e1, e2, e3, e4, e5]
  cases ip <;> simp [okB, holdsB, sameL_self, sameL_more, flip_ne]

theorem pair_5 (rsz rrp rver rep rrm : Int) (rsha rmd rwr : ByteArray) (ra : Option Addr) (rn rc : Nat) (rdm rpt : Bool) (nad : ByteArray) (nre nhe : Bool) (nfr : Int) (nsz nrp nver nep nrm : Int) (nsha nmd nwr : ByteArray) (na : Option Addr) (nn nc : Nat) (ndm npt : Bool) (hcl hh pv kv : Value) (addr : ByteArray) (H P : List ByteArray) (w : World) (hC : SL w hcl H) (hH : SL w hh H) (hP : SL w pv P) (hK : SL w kv (H ++ P)) (hHl : H.length ≤ 1000) (hPl : P.length ≤ 1000) (HS : Hid (∀ s ∈ H ++ P, s.size ≤ maxLen)) (hin : Hid (addr ∈ H ++ P)) (ip : Bool) (hip : Hid (mem P addr = ip)) :
    Calls Try.prog 32 #[.agg #[.int .i64 rsz, .string rsha, .string rmd, .int .i64 rrp, .slice ra rn rc, .int .i64 rver, .int .i64 rep, .int .i64 rrm, .string rwr, .bool rdm, .bool rpt], hcl, pv, kv, .string addr, .int .i64 5, .agg #[.string nad, .bool nre, .bool nhe, .int .i64 nsz, .string nsha, .string nmd, .int .i64 nrp, .slice na nn nc, .int .i64 nver, .int .i64 nep, .int .i64 nrm, .string nwr, .bool ndm, .bool npt, .int .i64 nfr]] w fun e w1 => ∃ m : Nat, e = .returned (.map (some m)) ∧ Below w.heap.size w w1 ∧
      Calls Try.prog 29 #[.agg #[.int .i64 rsz, .string rsha, .string rmd, .int .i64 rrp, .slice ra rn rc, .int .i64 rver, .int .i64 rep, .int .i64 rrm, .string rwr, .bool rdm, .bool rpt], .agg #[hh, pv], .map (some m)] w1 fun e w2 => e = .returned (.bool false) ∧ Below w1.heap.size w1 w2 := by
  obtain ⟨ha, hc, rfl⟩ := hC.slice
  refine (fault32_5 _ _ _ _ _ _ _ _ _ _ _ _ _ _ _ _ _ _ _ _ _ _ _ _ _ _ _ _ _ _ _ pv kv addr H P (H ++ P) w hC hP hK hHl hPl (by rw [List.length_append]; omega) HS.out (HS.out _ hin.out) ha hc rfl ip hip.out).mono ?_
  rintro e w1 ⟨m, x, rfl, hM, ⟨e1, e2, e3, e4, e5⟩, hx, hb⟩
  refine ⟨m, rfl, hb, ?_⟩
  have hM' : MapIs w1 m ((H ++ P).length + 1) (fun s => (updA (idealF rver rep ha H.length hc P (H ++ P)) addr (some x) s).map Ans.val) := by rw [updA_val]; exact hM
  refine (laid29 _ _ _ _ _ _ _ _ _ _ _ _ _ hh pv H P m _ _ (updL H (H) addr) w1 (hH.below hb (Nat.le_refl _)) (hP.below hb (Nat.le_refl _)) (by omega) hM' (reads_one (hC.below hb (Nat.le_refl _)) hx) HS.out).mono ?_
  rintro e w2 ⟨rfl, hb2⟩
  refine ⟨?_, hb2⟩
  rw [all_one _ _ _ _ _ _ _ _ _ _ hin.out]
  refine ret_bool ?_
  rw [hip.out, Option.getD_some, e1, e2, e3, e4, e5]
  cases ip <;> simp [okB, holdsB, sameL_self, sameL_more, flip_ne]

theorem pair_6 (rsz rrp rver rep rrm : Int) (rsha rmd rwr : ByteArray) (ra : Option Addr) (rn rc : Nat) (rdm rpt : Bool) (nad : ByteArray) (nre nhe : Bool) (nfr : Int) (nsz nrp nver nep nrm : Int) (nsha nmd nwr : ByteArray) (na : Option Addr) (nn nc : Nat) (ndm npt : Bool) (hcl hh pv kv : Value) (addr : ByteArray) (H P : List ByteArray) (w : World) (hC : SL w hcl H) (hH : SL w hh H) (hP : SL w pv P) (hK : SL w kv (H ++ P)) (hHl : H.length ≤ 1000) (hPl : P.length ≤ 1000) (HS : Hid (∀ s ∈ H ++ P, s.size ≤ maxLen)) (hin : Hid (addr ∈ H ++ P)) (ip : Bool) (hip : Hid (mem P addr = ip)) :
    Calls Try.prog 32 #[.agg #[.int .i64 rsz, .string rsha, .string rmd, .int .i64 rrp, .slice ra rn rc, .int .i64 rver, .int .i64 rep, .int .i64 rrm, .string rwr, .bool rdm, .bool rpt], hcl, pv, kv, .string addr, .int .i64 6, .agg #[.string nad, .bool nre, .bool nhe, .int .i64 nsz, .string nsha, .string nmd, .int .i64 nrp, .slice na nn nc, .int .i64 nver, .int .i64 nep, .int .i64 nrm, .string nwr, .bool ndm, .bool npt, .int .i64 nfr]] w fun e w1 => ∃ m : Nat, e = .returned (.map (some m)) ∧ Below w.heap.size w w1 ∧
      Calls Try.prog 29 #[.agg #[.int .i64 rsz, .string rsha, .string rmd, .int .i64 rrp, .slice ra rn rc, .int .i64 rver, .int .i64 rep, .int .i64 rrm, .string rwr, .bool rdm, .bool rpt], .agg #[hh, pv], .map (some m)] w1 fun e w2 => e = .returned (.bool ip) ∧ Below w1.heap.size w1 w2 := by
  obtain ⟨ha, hc, rfl⟩ := hC.slice
  refine (fault32_6 _ _ _ _ _ _ _ _ _ _ _ _ _ _ _ _ _ _ _ _ _ _ _ _ _ _ _ _ _ _ _ pv kv addr H P (H ++ P) w hC hP hK hHl hPl (by rw [List.length_append]; omega) HS.out (HS.out _ hin.out) ha hc rfl ip hip.out).mono ?_
  rintro e w1 ⟨m, x, rfl, hM, ⟨e1, e2, e3, e4, e5⟩, hx, hb⟩
  refine ⟨m, rfl, hb, ?_⟩
  have hM' : MapIs w1 m ((H ++ P).length + 1) (fun s => (updA (idealF rver rep ha H.length hc P (H ++ P)) addr (some x) s).map Ans.val) := by rw [updA_val]; exact hM
  refine (laid29 _ _ _ _ _ _ _ _ _ _ _ _ _ hh pv H P m _ _ (updL H (H) addr) w1 (hH.below hb (Nat.le_refl _)) (hP.below hb (Nat.le_refl _)) (by omega) hM' (reads_one (hC.below hb (Nat.le_refl _)) hx) HS.out).mono ?_
  rintro e w2 ⟨rfl, hb2⟩
  refine ⟨?_, hb2⟩
  rw [all_one _ _ _ _ _ _ _ _ _ _ hin.out]
  refine ret_bool ?_
  rw [hip.out, Option.getD_some, e1, e2, e3, e4, e5]
  cases ip <;> simp [okB, holdsB, sameL_self, sameL_more, flip_ne]

theorem pair_7 (rsz rrp rver rep rrm : Int) (rsha rmd rwr : ByteArray) (ra : Option Addr) (rn rc : Nat) (rdm rpt : Bool) (nad : ByteArray) (nre nhe : Bool) (nfr : Int) (nsz nrp nver nep nrm : Int) (nsha nmd nwr : ByteArray) (na : Option Addr) (nn nc : Nat) (ndm npt : Bool) (hcl hh pv kv : Value) (addr : ByteArray) (H P : List ByteArray) (w : World) (hC : SL w hcl H) (hH : SL w hh H) (hP : SL w pv P) (hK : SL w kv (H ++ P)) (hHl : H.length ≤ 1000) (hPl : P.length ≤ 1000) (HS : Hid (∀ s ∈ H ++ P, s.size ≤ maxLen)) (hin : Hid (addr ∈ H ++ P)) (ip : Bool) (hip : Hid (mem P addr = ip)) :
    Calls Try.prog 32 #[.agg #[.int .i64 rsz, .string rsha, .string rmd, .int .i64 rrp, .slice ra rn rc, .int .i64 rver, .int .i64 rep, .int .i64 rrm, .string rwr, .bool rdm, .bool rpt], hcl, pv, kv, .string addr, .int .i64 7, .agg #[.string nad, .bool nre, .bool nhe, .int .i64 nsz, .string nsha, .string nmd, .int .i64 nrp, .slice na nn nc, .int .i64 nver, .int .i64 nep, .int .i64 nrm, .string nwr, .bool ndm, .bool npt, .int .i64 nfr]] w fun e w1 => ∃ m : Nat, e = .returned (.map (some m)) ∧ Below w.heap.size w w1 ∧
      Calls Try.prog 29 #[.agg #[.int .i64 rsz, .string rsha, .string rmd, .int .i64 rrp, .slice ra rn rc, .int .i64 rver, .int .i64 rep, .int .i64 rrm, .string rwr, .bool rdm, .bool rpt], .agg #[hh, pv], .map (some m)] w1 fun e w2 => e = .returned (.bool false) ∧ Below w1.heap.size w1 w2 := by
  obtain ⟨ha, hc, rfl⟩ := hC.slice
  refine (fault32_7 _ _ _ _ _ _ _ _ _ _ _ _ _ _ _ _ _ _ _ _ _ _ _ _ _ _ _ _ _ _ _ pv kv addr H P (H ++ P) w hC hP hK hHl hPl (by rw [List.length_append]; omega) HS.out (HS.out _ hin.out) ha hc rfl ip hip.out).mono ?_
  rintro e w1 ⟨m, x, rfl, hM, ⟨e1, e2, e3, e4, e5⟩, hx, hb⟩
  refine ⟨m, rfl, hb, ?_⟩
  have hM' : MapIs w1 m ((H ++ P).length + 1) (fun s => (updA (idealF rver rep ha H.length hc P (H ++ P)) addr (some x) s).map Ans.val) := by rw [updA_val]; exact hM
  refine (laid29 _ _ _ _ _ _ _ _ _ _ _ _ _ hh pv H P m _ _ (updL H (H ++ [nad]) addr) w1 (hH.below hb (Nat.le_refl _)) (hP.below hb (Nat.le_refl _)) (by omega) hM' (reads_one (hC.below hb (Nat.le_refl _)) hx) HS.out).mono ?_
  rintro e w2 ⟨rfl, hb2⟩
  refine ⟨?_, hb2⟩
  rw [all_one _ _ _ _ _ _ _ _ _ _ hin.out]
  refine ret_bool ?_
  rw [hip.out, Option.getD_some, e1, e2, e3, e4, e5]
  cases ip <;> simp [okB, holdsB, sameL_self, sameL_more, flip_ne]

end Go.Proofs.Qxb6617077a
