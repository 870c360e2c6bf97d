import Derived.Test.YbulkoxqWalks17
import Derived.Test.YbulkoxqWalks7
import Derived.Test.YbulkoxqWalks8
import Derived.Test.YbulkoxqWalks9
import Derived.Test.YbulkoxqWalks10
import Derived.Test.YbulkoxqWalks11
set_option linter.unusedVariables false
set_option linter.unusedSimpArgs false
namespace Go.Proofs.Ybulkoxq
open Go.RowKit

/-- The optional part of the wire form. -/
def optD (don : Bool) (dx dy : Nat) (dtag dnon ddig : List UInt8) (dm : Nat) (dds : List UInt8) : List Value := if don then optL dx dy dtag dnon ddig dm dds else [.int .u8 0]

theorem model9 (po vo ho dob fo : Option Addr) (pn pc vm vc hm hc dm dc fm fc : Nat) (pds vds hds dds : List UInt8) (key : ByteArray) (x y cl dx dy : Nat) (tag non dtag dnon ddig : List UInt8) (don : Bool)
    (hpn : pn ≤ 1024) (hk : key.size ≤ 1024) (hx : x < 18446744073709551616) (hy : y < 18446744073709551616) (ht : tag.length = 32) (hn : non.length = 32) (hvm : vm ≤ 1024) (hhm : hm ≤ 1024) (hfm : fm ≤ 1024) (hcl : cl < 18446744073709551616)
    (hdx : dx < 18446744073709551616) (hdy : dy < 18446744073709551616) (hdt : dtag.length = 32) (hdn : dnon.length = 32) (hdg : ddig.length = 32) (hdm : dm ≤ 1024)
    (w : World) (hp : By w w.heap.size po pn pc pds) (hv : Dg w w.heap.size vo vm vds) (hh : Dg w w.heap.size ho hm hds) (hd : Dg w w.heap.size dob dm dds) :
    Calls Yba.prog 9 #[.agg (argL (.slice po pn pc) key x y tag non (.slice vo vm vc) cl (.slice ho hm hc) don dx dy dtag dnon ddig (.slice dob dm dc) (.slice fo fm fc)).toArray] w fun e w' => ∃ N v', e = .returned v' ∧ w'.ownsRow (w.heap.size + 1) 5 1 v' N (Lib.byteCells pds ++ bodyL key x y tag non vm vds cl hm hds (optD don dx dy dtag dnon ddig dm dds) fm) ∧ Below w.heap.size w w' := by
  cases don with
  | false => exact model_z1 po vo ho dob fo pn pc vm vc hm hc dm dc fm fc pds vds hds dds key x y cl dx dy tag non dtag dnon ddig hpn hk hx hy ht hn hvm hhm hfm hcl hdx hdy hdt hdn hdg hdm w hp hv hh hd
  | true =>
    by_cases h1 : dx = 0
    · by_cases h2 : dy = 0
      · by_cases h3 : dtag = List.replicate 32 0
        · exact model_z2 po vo ho dob fo pn pc vm vc hm hc dm dc fm fc pds vds hds dds key x y cl dx dy tag non dtag dnon ddig hpn hk hx hy ht hn hvm hhm hfm hcl hdx hdy hdt hdn hdg hdm w hp hv hh hd h1 h2 h3
        · exact model_nz3 po vo ho dob fo pn pc vm vc hm hc dm dc fm fc pds vds hds dds key x y cl dx dy tag non dtag dnon ddig hpn hk hx hy ht hn hvm hhm hfm hcl hdx hdy hdt hdn hdg hdm w hp hv hh hd h1 h2 h3
      · exact model_nz2 po vo ho dob fo pn pc vm vc hm hc dm dc fm fc pds vds hds dds key x y cl dx dy tag non dtag dnon ddig hpn hk hx hy ht hn hvm hhm hfm hcl hdx hdy hdt hdn hdg hdm w hp hv hh hd h1 h2
    · exact model_nz1 po vo ho dob fo pn pc vm vc hm hc dm dc fm fc pds vds hds dds key x y cl dx dy tag non dtag dnon ddig hpn hk hx hy ht hn hvm hhm hfm hcl hdx hdy hdt hdn hdg hdm w hp hv hh hd h1

/-- What the candidate of the built request is. -/
structure Cand (w : World) (B : Nat) (x y : Nat) (tag non dig : List UInt8) (m : Nat) (co : Option Addr) (ds : List UInt8) : Prop where
  hx : x < 18446744073709551616
  hy : y < 18446744073709551616
  ht : tag.length = 32
  hn : non.length = 32
  hg : dig.length = 32
  hm : m ≤ 1024
  dg : Dg w B co m ds

theorem build6 (po vo ho dob fo : Option Addr) (pn pc vm vc hm hc dm dc fm fc : Nat) (vds hds dds fds : List UInt8) (key : ByteArray) (x y cl dx dy : Nat) (tag non dtag dnon ddig : List UInt8) (don : Bool)
    (ht : tag.length = 32) (hn : non.length = 32) (hvm : vm ≤ 1024) (hhm : hm ≤ 1024) (hfm : fm ≤ 1024) (hdx : dx < 18446744073709551616) (hdy : dy < 18446744073709551616)
    (hdt : dtag.length = 32) (hdn : dnon.length = 32) (hdg : ddig.length = 32) (hdm : dm ≤ 1024) (hvn : vo = none → vm = 0 ∧ vc = 0) (hhn : ho = none → hm = 0 ∧ hc = 0) (hdon : dob = none → dm = 0 ∧ dc = 0)
    (w : World) (hf : By w w.heap.size fo fm fc fds) (hv : Dg w w.heap.size vo vm vds) (hh : Dg w w.heap.size ho hm hds) (hd : Dg w w.heap.size dob dm dds) :
    Calls Yba.prog 6 #[.agg (argL (.slice po pn pc) key x y tag non (.slice vo vm vc) cl (.slice ho hm hc) don dx dy dtag dnon ddig (.slice dob dm dc) (.slice fo fm fc)).toArray] w fun e w' => ∃ q vo' vc' ho' hc' cx cy ct cn cg co cm cc cds fo' fc', e = .returned (.pointer (some ⟨q, 0, none⟩)) ∧ w'.heap[q]? = some (.cells (reqL key x y tag non (.slice vo' vm vc') cl (.slice ho' hm hc') (candL cx cy ct cn cg (.slice co cm cc)) (.slice fo' fm fc')).toArray 49 (0, 0)) ∧ Dg w' w'.heap.size vo' vm vds ∧ Dg w' w'.heap.size ho' hm hds ∧ Cand w' w'.heap.size cx cy ct cn cg cm co cds ∧ optL cx cy ct cn cg cm cds = optD don dx dy dtag dnon ddig dm dds ∧ Below w.heap.size w w' := by
  cases don with
  | false =>
    refine (build_off po vo ho dob fo pn pc vm vc hm hc dm dc fm fc vds hds dds fds key x y cl dx dy tag non dtag dnon ddig ht hn hvm hhm hfm hdt hdn hdg hdm hvn hhn hdon w hf hv hh hd).mono ?_
    rintro e w' ⟨q, vo', vc', ho', hc', fo', fc', h1, h2, h3, h4, h5⟩
    exact ⟨q, vo', vc', ho', hc', 0, 0, z32, z32, z32, none, 0, 0, [], fo', fc', h1, h2, h3, h4, ⟨by omega, by omega, rfl, rfl, rfl, by omega, ⟨rfl, fun h => absurd h (by omega)⟩⟩, by simp [optL, optD, tz, z32], h5⟩
  | true =>
    refine (build_on po vo ho dob fo pn pc vm vc hm hc dm dc fm fc vds hds dds fds key x y cl dx dy tag non dtag dnon ddig ht hn hvm hhm hfm hdt hdn hdg hdm hvn hhn hdon w hf hv hh hd).mono ?_
    rintro e w' ⟨q, vo', vc', ho', hc', do', dc', fo', fc', h1, h2, h3, h4, h6, h5⟩
    exact ⟨q, vo', vc', ho', hc', dx, dy, dtag, dnon, ddig, do', dm, dc', dds, fo', fc', h1, h2, h3, h4, ⟨hdx, hdy, hdt, hdn, hdg, hdm, h6⟩, by simp [optD], h5⟩
end Go.Proofs.Ybulkoxq
