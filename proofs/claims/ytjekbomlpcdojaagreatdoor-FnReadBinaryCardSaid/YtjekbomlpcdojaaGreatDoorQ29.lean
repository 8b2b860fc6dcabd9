/- Part 29 of the proof: XtXBin. -/
import Derived.Test.YtjekbomlpcdojaaGreatDoorQ23
import Derived.Test.YtjekbomlpcdojaaGreatDoorQ21
import Derived.Test.YtjekbomlpcdojaaGreatDoorQ26
set_option linter.unusedVariables false
set_option linter.unusedSimpArgs false
set_option linter.unusedSectionVars false
set_option maxHeartbeats 16000000
namespace Go.Proofs.YtjekbomlpcdojaaGreatDoor
open Go Go.RowKit
theorem Bin.skipM (K : Bin.Ctx) {s : Bin.St} {w : World} (t : Int) (h : (Bin.rp K).Inv s w) (hr : (Bin.rp K).pr.Room s) :
  Calls Tryz.prog 318 #[.pointer (some ⟨K.P, 0, none⟩), ctxV, .int .u8 t] w (Rp.EndP (Bin.rp K) w (skp (Bin.rp K).pr 64 t s).1 (skp (Bin.rp K).pr 64 t s).2) := by
 have H := hdd (fun w' (e : w = w') => Rp.skip_default (Bin.rp K) t s w' (e ▸ h) hr)
 clear h hr
 go_enter Tryz.func318, Tryz.ntmps318
 go_wp2_with fail
 refine (H.out _ rfl).mono ?_
 rintro e w1 ⟨ev, rfl, hp⟩
 have HP := hdd hp
 clear hp
 go_wp2_with fail
 go_ret
 exact ⟨_, rfl, HP.out⟩
theorem Bin.ext (K : Bin.Ctx) : Rp.Ext (Bin.rp K) (Bin.gK K.c) Bin.gS Bin.gT Bin.gN Bin.gB 309 310 296 318 where
 mb := ⟨fun w => by kernel_rfl, fun w => by kernel_rfl, fun args w => by kernel_rfl⟩
 me := ⟨fun w => by kernel_rfl, fun w => by kernel_rfl, fun args w => by kernel_rfl⟩
 my := ⟨fun w => by kernel_rfl, fun w => by kernel_rfl, fun args w => by kernel_rfl⟩
 mq := ⟨fun w => by kernel_rfl, fun w => by kernel_rfl, fun args w => by kernel_rfl⟩
 msg {s w} h := (Bin.readMessageBegin h).mono (fun e w' r => by
  obtain ⟨l, t, q, ev, rfl, hp, hv⟩ := r
  exact ⟨l, t, q, ev, rfl, hp.rp, fun hz => ⟨(hv hz).1, (hv hz).2.1, (hv hz).2.2, wrap64_i64 (Bin.gT_w s), wrap64_i32 (Bin.gN_w s), Bin.gB_len h⟩⟩)
 mge h := (Bin.readMessageEnd _ _ _).mono (fun e w' r => by obtain ⟨rfl, rfl⟩ := r; exact ⟨_, rfl, Rp.nothing h⟩)
 byt h := (Bin.readBinary h).mono (fun e w' r => by obtain ⟨v, ev, l, rfl, hp, hb, hv⟩ := r; exact ⟨v, ev, l, rfl, hp.rp, hb, hv⟩)
 skp t h hr := Bin.skipM K t h hr
 sb h hd := (Bin.structBegin h hd).mono (fun e w' r => by obtain ⟨rfl, hp⟩ := r; exact ⟨_, rfl, hp.rp⟩)
 se h hd := (Bin.structEnd0 h hd).mono (fun e w' r => by obtain ⟨ev, rfl, hp⟩ := r; exact ⟨_, rfl, hp.rp⟩)
 f {s w} h := (Bin.fieldBegin h).mono (fun e w' r => by
  obtain ⟨t, i, ev, rfl, hp, hv⟩ := r
  refine ⟨t, i, ev, rfl, hp.rp, fun hz => ⟨(hv hz).1, (hv hz).2, wrap64_bd (Bin.fT_bd K s) (by omega) (by omega), wrap64_bd (Bin.fI_bd K s) (by omega) (by omega)⟩⟩)
end Go.Proofs.YtjekbomlpcdojaaGreatDoor
