/- Part of the proof of FnGrayCoefficientsCardSaid: Contracts of the encoder shown: a whole gray image. -/
import Derived.Test.YtljjbikbfeigdaaGreatDoorGc28
set_option linter.all false
namespace Go.Proofs.YtljjbikbfeigdaaGreatDoor
noncomputable section
open Go
theorem rspT_ok : ∀ f s, rspT f = some s → RSpecOk Tryz.prog Z f s := by
  intro f s h
  unfold rspT at h
  split at h
  · cases h; exact applyR_ok c153_ok
  · cases h; exact applyR_ok c154_ok
  · cases h; exact applyR_ok c155_ok
  · cases h; exact applyR_ok c67_ok
  · unfold rspL at h
    cases h
    intro ρ w0 w h args r hr
    simp only at hr
    split at hr
    · rename_i s _ _
      split at hr
      · rename_i hs
        match s, hs with
        | 0, _ => exact applyR_ok c81_0_ok ρ w0 w h _ r hr
        | 1, _ => exact applyR_ok c81_1_ok ρ w0 w h _ r hr
        | 2, _ => exact applyR_ok c81_2_ok ρ w0 w h _ r hr
        | 3, _ => exact applyR_ok c81_3_ok ρ w0 w h _ r hr
        | n + 4, hn => exact absurd hn (by omega)
      · cases hr
    · cases hr
  · cases h
def vc45 : VC :=
 let t0 : T := .lit (-9223372036854775808)
 let t1 : T := .lit (9223372036854775807)
 let t2 : T := .lit (1)
 let t3 : T := .ite (.lt (.iv 30) t2) t2 (.ite (.lt (.lit (100)) (.iv 30)) (.lit (100)) (.iv 30))
 let t4 : T := .lt t3 (.lit (50))
 let t6 : T := .lit (0)
 let t7 : T := .tdiv (.lit (5000)) t3
 let t8 : T := .lit (2)
 let t9 : T := .mul t3 t8
 let t10 : T := .sub (.lit (200)) t9
 let t11 : T := .lit (64)
 let t12 : T := .splice (.rep t11 t6) (.len (.rep t11 t6)) (.rep t11 t6)
 let t13 : T := .fa 511 (.iv 30) t6 t6 t6 (.alit []) (.alit []) (.alit []) (.alit [])
 let t14 : T := .mul t11 (.iv 2600)
 let t15 : T := .add (.mul (.iv 2600) t11) (.iv 3000)
 let t16 : T := .fa 46 t6 t6 t6 t6 (.alit []) (.alit []) (.alit []) (.alit [])
 let t17 : T := .get t16 t15
 let t18 : T := .mul t17 (.ite t4 t7 t10)
 let t19 : T := .add t18 (.lit (50))
 let t20 : T := .tdiv t19 (.lit (100))
 let t21 : T := .add (.iv 3000) t2
 let t22 : T := .set (.av 3000) t15 (.wrap .u8 (.ite (.lt t20 t2) t2 (.ite (.lt (.lit (255)) t20) (.lit (255)) t20)))
 let t24 : T := .add (.iv 2600) t2
 let t25 : T := .lit (4096)
 let t26 : T := .lit (1000000000000)
 let t27 : T := .lit (16)
 let t28 : T := .splice (.av 3100) (.len (.av 3100)) (.cut (.av 3101) t6 (.iv 3100))
 let t29 : T := .splice (.av 0) (.len (.av 0)) (.cut (.rep t25 t6) t6 t6)
 let t30 : T := .splice (.av 3500) (.len (.av 3500)) (.cut (.av 3501) t6 (.iv 3500))
 let t31 : T := .splice (.av 3900) (.len (.av 3900)) (.cut (.av 3901) t6 (.iv 3900))
 let t32 : T := .set (.alit [0]) t6 t6
 let t33 : T := .splice (.av 4300) (.len (.av 4300)) (.cut (.av 4301) t6 (.iv 4300))
 let t34 : T := .splice (.av 4700) (.len (.av 4700)) (.cut (.av 4701) t6 (.iv 4700))
 let t35 : T := .splice (.av 5100) (.len (.av 5100)) (.cut (.av 5101) t6 (.iv 5100))
 let t36 : T := .splice (.av 5500) (.len (.av 5500)) (.cut (.av 5501) t6 (.iv 5500))
 let t37 : T := .set (.set (.set (.set (.set (.set (.set (.set (.set (.alit [0, 0, 0, 0, 0, 0, 0, 0, 0]) t6 (.lit (8))) t2 (.wrap .u8 (.shr .i64 (.iv 22) (.lit (8))))) t8 (.wrap .u8 (.bits .and .i64 (.iv 22) (.lit (255))))) (.lit (3)) (.wrap .u8 (.shr .i64 (.iv 21) (.lit (8))))) (.lit (4)) (.wrap .u8 (.bits .and .i64 (.iv 21) (.lit (255))))) (.lit (5)) t2) (.lit (6)) t2) (.lit (7)) (.lit (17))) (.lit (8)) t6
 let t38 : T := .splice (.av 5900) (.len (.av 5900)) (.cut (.av 5901) t6 (.iv 5900))
 let t39 : T := .splice (.av 6300) (.len (.av 6300)) (.cut (.av 6301) t6 (.iv 6300))
 let t40 : T := .splice (.av 6700) (.len (.av 6700)) (.cut (.av 6701) t6 (.iv 6700))
 let t41 : T := .splice (.av 7100) (.len (.av 7100)) (.cut (.av 7101) t6 (.iv 7100))
 let t42 : T := .splice (.av 7500) (.len (.av 7500)) (.cut (.av 7501) t6 (.iv 7500))
 let t43 : T := .splice (.av 7900) (.len (.av 7900)) (.cut (.av 7901) t6 (.iv 7900))
 let t44 : T := .splice (.av 8300) (.len (.av 8300)) (.cut (.av 8301) t6 (.iv 8300))
 let t45 : T := .alit [1, 2, 3, 0, 4, 17, 5, 18, 33, 49, 65, 6, 19, 81, 97, 7, 34, 113, 20, 50, 129, 145, 161, 8, 35, 66, 177, 193, 21, 82, 209, 240, 36, 51, 98, 114, 130, 9, 10, 22, 23, 24, 25, 26, 37, 38, 39, 40, 41, 42, 52, 53, 54, 55, 56, 57, 58, 67, 68, 69, 70, 71, 72, 73, 74, 83, 84, 85, 86, 87, 88, 89, 90, 99, 100, 101, 102, 103, 104, 105, 106, 115, 116, 117, 118, 119, 120, 121, 122, 131, 132, 133, 134, 135, 136, 137, 138, 146, 147, 148, 149, 150, 151, 152, 153, 154, 162, 163, 164, 165, 166, 167, 168, 169, 170, 178, 179, 180, 181, 182, 183, 184, 185, 186, 194, 195, 196, 197, 198, 199, 200, 201, 202, 210, 211, 212, 213, 214, 215, 216, 217, 218, 225, 226, 227, 228, 229, 230, 231, 232, 233, 234, 241, 242, 243, 244, 245, 246, 247, 248, 249, 250]
 let t46 : T := .splice (.av 8700) (.len (.av 8700)) (.cut (.av 8701) t6 (.iv 8700))
 let t47 : T := .add (.add (.len (.av 8700)) (.iv 8700)) (.lit (100000000000))
 let t48 : T := .splice (.av 9100) (.len (.av 9100)) (.cut (.av 9101) t6 (.iv 9100))
 let t49 : T := .set (.set (.set (.set (.set (.set (.set (.set (.set (.alit [0, 0, 0, 0, 0, 0, 0, 0, 0]) t6 (.lit (255))) t2 (.lit (196))) t8 t6) (.lit (3)) (.lit (210))) (.lit (4)) (.wrap .u8 (.bits .and .i64 (.iv 21) (.lit (255))))) (.lit (5)) t2) (.lit (6)) t2) (.lit (7)) (.lit (17))) (.lit (8)) t6
 let t50 : T := .cut (.set (.set (.splice t49 (.len t49) (.rep (.lit (7)) t6)) t6 (.lit (255))) t2 (.lit (217))) t6 t8
 let t51 : T := .add (.len (.av 9500)) (.iv 9500)
 let t52 : T := .splice (.av 9500) (.len (.av 9500)) (.cut (.av 9501) t6 (.iv 9500))
 (.need [(.le t0 (.iv 21)), (.le (.iv 21) t1)] (.cond (.le (.lit (65536)) (.iv 21)) (.fail "leaf fit") (.need [(.le t0 (.iv 22)), (.le (.iv 22) t1)] (.cond (.le (.lit (65536)) (.iv 22)) (.fail "leaf fit") (.need [(.le (.lit (12)) (.lit (12)))] (.any 1000 12 [] (.need [(.le (.lit (162)) (.lit (162)))] (.any 1400 13 [] (.any 1800 14 [] (.any 2200 15 [] (.need [(.or (.not t4) (.not (.eq t3 t6))), (.or (.not t4) (.le t0 t7)), (.or (.not t4) (.le t7 t1)), (.or t4 (.le t0 t9)), (.or t4 (.le t9 t1)), (.or t4 (.le t0 t10)), (.or t4 (.le t10 t1))] (.need [(.le t6 t6), (.le t6 t8), (.eq (.len t12) (.lit (128))), (.aeq (.cut t12 t6 (.mul t11 t6)) (.cut t13 t6 (.mul t11 t6)))] (.any 2600 1000000017 [(.le t6 (.iv 2600)), (.le (.iv 2600) t8), (.eq (.len (.av 2600)) (.lit (128))), (.aeq (.cut (.av 2600) t6 t14) (.cut t13 t6 t14))] (.cond (.lt (.iv 2600) t8) (.need [(.le t6 t11), (.aeq (.cut (.av 2600) t6 (.add t14 t6)) (.cut t13 t6 (.add t14 t6)))] (.any 3000 1000000017 [(.le t6 (.iv 3000)), (.le (.iv 3000) t11), (.eq (.len (.av 3000)) (.lit (128))), (.aeq (.cut (.av 3000) t6 (.add t14 (.iv 3000))) (.cut t13 t6 (.add t14 (.iv 3000))))] (.cond (.lt (.iv 3000) t11) (.need [(.le t6 (.mul (.iv 2600) t11))] (.need [(.le t6 t15), (.lt t15 (.len t16))] (.need [(.le t0 t17), (.le t17 t1)] (.need [(.le t0 t18), (.le t18 t1)] (.need [(.le t0 t19), (.le t19 t1)] (.need [(.le t0 t20), (.le t20 t1)] (.need [(.lt t15 (.lit (128)))] (.need [(.le t0 t21), (.le t21 t1)] (.need [(.le t6 t21), (.le t21 t11), (.eq (.len t22) (.lit (128))), (.aeq (.cut t22 t6 (.add t14 t21)) (.cut t13 t6 (.add t14 t21))), (.lt t6 (.sub t11 (.iv 3000))), (.lt (.sub t11 t21) (.sub t11 (.iv 3000)))] .done))))))))) (.need [(.le t0 t24), (.le t24 t1)] (.need [(.le t6 t24), (.le t24 t8), (.aeq (.cut (.av 3000) t6 (.mul t11 t24)) (.cut t13 t6 (.mul t11 t24))), (.lt t6 (.sub t8 (.iv 2600))), (.lt (.sub t8 t24) (.sub t8 (.iv 2600)))] .done))))) (.need [(.le t6 t25), (.le (.add (.add (.len (.av 0)) t6) t8) t26), (.le t8 t25), (.le t8 t27), (.eq (.len (.alit [255, 216])) t8)] (.any 3000 17 [(.eq (.add (.len (.av 3100)) (.iv 3100)) (.add (.add (.len (.av 0)) t6) t8)), (.le t6 (.iv 3100)), (.le (.iv 3100) t25), (.eq (.len (.av 3101)) t25), (.aeq t28 (.splice t29 (.len t29) (.alit [255, 216])))] (.need [(.le (.add (.add (.len (.av 3100)) (.iv 3100)) (.lit (4))) t26), (.le t6 (.lit (4))), (.le (.lit (4)) t25), (.le (.lit (4)) t27), (.eq (.len (.alit [255, 219, 0, 132])) (.lit (4)))] (.any 3400 17 [(.eq (.add (.len (.av 3500)) (.iv 3500)) (.add (.add (.len (.av 3100)) (.iv 3100)) (.lit (4)))), (.le t6 (.iv 3500)), (.le (.iv 3500) t25), (.eq (.len (.av 3501)) t25), (.aeq t30 (.splice t28 (.len t28) (.alit [255, 219, 0, 132])))] (.need [(.le (.add (.add (.len (.av 3500)) (.iv 3500)) t2) t26)] (.any 3800 17 [(.eq (.add (.len (.av 3900)) (.iv 3900)) (.add (.add (.len (.av 3500)) (.iv 3500)) t2)), (.le t6 (.iv 3900)), (.le (.iv 3900) t25), (.eq (.len (.av 3901)) t25), (.aeq t31 (.splice t30 (.len t30) t32))] (.need [(.le (.add (.add (.len (.av 3900)) (.iv 3900)) t11) t26), (.le t6 t11), (.le t11 t25), (.le t11 t11), (.eq (.len (.cut (.av 2600) t6 t11)) t11)] (.any 4200 17 [(.eq (.add (.len (.av 4300)) (.iv 4300)) (.add (.add (.len (.av 3900)) (.iv 3900)) t11)), (.le t6 (.iv 4300)), (.le (.iv 4300) t25), (.eq (.len (.av 4301)) t25), (.aeq t33 (.splice t31 (.len t31) (.cut (.av 2600) t6 t11)))] (.need [(.le (.add (.add (.len (.av 4300)) (.iv 4300)) t2) t26)] (.any 4600 17 [(.eq (.add (.len (.av 4700)) (.iv 4700)) (.add (.add (.len (.av 4300)) (.iv 4300)) t2)), (.le t6 (.iv 4700)), (.le (.iv 4700) t25), (.eq (.len (.av 4701)) t25), (.aeq t34 (.splice t33 (.len t33) (.set (.alit [0]) t6 t2)))] (.need [(.le (.add (.add (.len (.av 4700)) (.iv 4700)) t11) t26), (.eq (.len (.cut (.av 2600) t11 t11)) t11)] (.any 5000 17 [(.eq (.add (.len (.av 5100)) (.iv 5100)) (.add (.add (.len (.av 4700)) (.iv 4700)) t11)), (.le t6 (.iv 5100)), (.le (.iv 5100) t25), (.eq (.len (.av 5101)) t25), (.aeq t35 (.splice t34 (.len t34) (.cut (.av 2600) t11 t11)))] (.need [(.le (.add (.add (.len (.av 5100)) (.iv 5100)) (.lit (4))) t26), (.eq (.len (.alit [255, 192, 0, 11])) (.lit (4)))] (.any 5400 20 [(.eq (.add (.len (.av 5500)) (.iv 5500)) (.add (.add (.len (.av 5100)) (.iv 5100)) (.lit (4)))), (.le t6 (.iv 5500)), (.le (.iv 5500) t25), (.eq (.len (.av 5501)) t25), (.aeq t36 (.splice t35 (.len t35) (.alit [255, 192, 0, 11])))] (.need [(.le (.add (.add (.len (.av 5500)) (.iv 5500)) (.lit (9))) t26), (.le t6 (.lit (9))), (.le (.lit (9)) t25), (.le (.lit (9)) t27), (.eq (.len t37) (.lit (9)))] (.any 5800 20 [(.eq (.add (.len (.av 5900)) (.iv 5900)) (.add (.add (.len (.av 5500)) (.iv 5500)) (.lit (9)))), (.le t6 (.iv 5900)), (.le (.iv 5900) t25), (.eq (.len (.av 5901)) t25), (.aeq t38 (.splice t36 (.len t36) t37))] (.need [(.le (.add (.add (.len (.av 5900)) (.iv 5900)) (.lit (4))) t26), (.eq (.len (.alit [255, 196, 0, 210])) (.lit (4)))] (.any 6200 28 [(.eq (.add (.len (.av 6300)) (.iv 6300)) (.add (.add (.len (.av 5900)) (.iv 5900)) (.lit (4)))), (.le t6 (.iv 6300)), (.le (.iv 6300) t25), (.eq (.len (.av 6301)) t25), (.aeq t39 (.splice t38 (.len t38) (.alit [255, 196, 0, 210])))] (.need [(.le (.add (.add (.len (.av 6300)) (.iv 6300)) t2) t26)] (.any 6600 29 [(.eq (.add (.len (.av 6700)) (.iv 6700)) (.add (.add (.len (.av 6300)) (.iv 6300)) t2)), (.le t6 (.iv 6700)), (.le (.iv 6700) t25), (.eq (.len (.av 6701)) t25), (.aeq t40 (.splice t39 (.len t39) t32))] (.need [(.le (.add (.add (.len (.av 6700)) (.iv 6700)) t27) t26), (.le t6 t27), (.le t27 t25), (.le t27 t27), (.eq (.len (.alit [0, 1, 5, 1, 1, 1, 1, 1, 1, 0, 0, 0, 0, 0, 0, 0])) t27)] (.any 7000 29 [(.eq (.add (.len (.av 7100)) (.iv 7100)) (.add (.add (.len (.av 6700)) (.iv 6700)) t27)), (.le t6 (.iv 7100)), (.le (.iv 7100) t25), (.eq (.len (.av 7101)) t25), (.aeq t41 (.splice t40 (.len t40) (.alit [0, 1, 5, 1, 1, 1, 1, 1, 1, 0, 0, 0, 0, 0, 0, 0])))] (.need [(.le (.add (.add (.len (.av 7100)) (.iv 7100)) (.lit (12))) t26), (.le t6 (.lit (12))), (.le (.lit (12)) t25), (.eq (.len (.alit [0, 1, 2, 3, 4, 5, 6, 7, 8, 9, 10, 11])) (.lit (12)))] (.any 7400 29 [(.eq (.add (.len (.av 7500)) (.iv 7500)) (.add (.add (.len (.av 7100)) (.iv 7100)) (.lit (12)))), (.le t6 (.iv 7500)), (.le (.iv 7500) t25), (.eq (.len (.av 7501)) t25), (.aeq t42 (.splice t41 (.len t41) (.alit [0, 1, 2, 3, 4, 5, 6, 7, 8, 9, 10, 11])))] (.need [(.le (.add (.add (.len (.av 7500)) (.iv 7500)) t2) t26)] (.any 7800 30 [(.eq (.add (.len (.av 7900)) (.iv 7900)) (.add (.add (.len (.av 7500)) (.iv 7500)) t2)), (.le t6 (.iv 7900)), (.le (.iv 7900) t25), (.eq (.len (.av 7901)) t25), (.aeq t43 (.splice t42 (.len t42) (.set (.alit [0]) t6 t27)))] (.need [(.le (.add (.add (.len (.av 7900)) (.iv 7900)) t27) t26), (.eq (.len (.alit [0, 2, 1, 3, 3, 2, 4, 3, 5, 5, 4, 4, 0, 0, 1, 125])) t27)] (.any 8200 30 [(.eq (.add (.len (.av 8300)) (.iv 8300)) (.add (.add (.len (.av 7900)) (.iv 7900)) t27)), (.le t6 (.iv 8300)), (.le (.iv 8300) t25), (.eq (.len (.av 8301)) t25), (.aeq t44 (.splice t43 (.len t43) (.alit [0, 2, 1, 3, 3, 2, 4, 3, 5, 5, 4, 4, 0, 0, 1, 125])))] (.need [(.le (.add (.add (.len (.av 8300)) (.iv 8300)) (.lit (162))) t26), (.le t6 (.lit (162))), (.le (.lit (162)) t25), (.eq (.len t45) (.lit (162)))] (.any 8600 30 [(.eq (.add (.len (.av 8700)) (.iv 8700)) (.add (.add (.len (.av 8300)) (.iv 8300)) (.lit (162)))), (.le t6 (.iv 8700)), (.le (.iv 8700) t25), (.eq (.len (.av 8701)) t25), (.aeq t46 (.splice t44 (.len t44) t45))] (.need [(.le t6 (.lit (4294967295))), (.le t6 (.lit (7))), (.le t47 t26), (.fb 2 t2 (.lit (255)) t6 t6 (.av 2600) (.alit []) (.alit []) (.alit []))] (.any 9000 30 [(.le t6 (.iv 9100)), (.le (.iv 9100) t25), (.eq (.len (.av 9101)) t25), (.le t6 (.iv 9101)), (.le (.iv 9101) (.lit (4294967295))), (.le t6 (.iv 9102)), (.le (.iv 9102) (.lit (7))), (.le (.add (.len (.av 9100)) (.iv 9100)) t47), (.aeq (.splice (.set (.alit [0]) t6 (.iv 9101)) (.len (.set (.alit [0]) t6 (.iv 9101))) (.splice (.set (.alit [0]) t6 (.iv 9102)) (.len (.set (.alit [0]) t6 (.iv 9102))) t48)) (.fa 500 t6 t6 t6 t6 (.splice t32 (.len t32) (.splice t32 (.len t32) t46)) (.av 2600) (.av 5) (.splice (.set (.alit [0]) t6 (.iv 21)) (.len (.set (.alit [0]) t6 (.iv 21))) (.set (.alit [0]) t6 (.iv 22)))))] (.need [(.le (.add (.add (.len (.av 9100)) (.iv 9100)) t8) t26), (.eq (.len t50) t8)] (.any 9400 30 [(.eq t51 (.add (.add (.len (.av 9100)) (.iv 9100)) t8)), (.le t6 (.iv 9500)), (.le (.iv 9500) t25), (.eq (.len (.av 9501)) t25), (.aeq t52 (.splice t48 (.len t48) t50))] (.need [(.le t51 t26)] (.any 9800 30 [(.eq (.len (.av 9900)) t51), (.aeq (.av 9900) t52)] (.need [(.aeq (.av 9900) (.fa 510 (.iv 30) (.iv 21) (.iv 22) t6 (.av 5) (.alit []) (.alit []) (.alit []))), (.le (.len (.av 9900)) t26)] .done)))))))))))))))))))))))))))))))))))))))))))))))))))
theorem w45 : vcIs (vcOf Tryz.prog noS rspT ⟨ltK13, inlAll⟩ 100000 45 c45) vc45 = true := by kernel_rfl
end
end Go.Proofs.YtljjbikbfeigdaaGreatDoor
