import Derived.Test.YbulkoxqWalks16
set_option linter.unusedVariables false
set_option linter.unusedSimpArgs false
namespace Go.Proofs.Ybulkoxq
open Go.RowKit

set_option maxRecDepth 100000 in
set_option maxHeartbeats 1000000 in
theorem big_yes0 (po vo ho dob fo : Option Addr) (pn pc vm vc hm hc dm dc fm fc : Nat) (key : ByteArray) (x y cl dx dy : Nat) (tag non dtag dnon ddig : List UInt8) (don : Bool)
    (ht : tag.length = 32) (hn : non.length = 32) (hdt : dtag.length = 32) (hdn : dnon.length = 32) (hdg : ddig.length = 32) (h0 : 1024 < pn) (w : World) :
    Calls Yba.prog 5 #[.agg (argL (.slice po pn pc) key x y tag non (.slice vo vm vc) cl (.slice ho hm hc) don dx dy dtag dnon ddig (.slice dob dm dc) (.slice fo fm fc)).toArray] w fun e w' => e = .returned (.bool true) ∧ Below w.heap.size w w' := by
  have A := Arg.mk' (don := don) (dx := dx) (dy := dy) (x := x) (y := y) (cl := cl) (key := key) (pre := .slice po pn pc) (vec := .slice vo vm vc) (hs := .slice ho hm hc) (dvec := .slice dob dm dc) (frag := .slice fo fm fc) ht hn hdt hdn hdg (heap_alloc_new w _)
  have q0 := A.pre
  have q1 := A.key
  have q2 := A.vec
  have q3 := A.hs
  have q4 := A.dvec
  have q5 := A.frag
  clear A
  generalize (argL (.slice po pn pc) key x y tag non (.slice vo vm vc) cl (.slice ho hm hc) don dx dy dtag dnon ddig (.slice dob dm dc) (.slice fo fm fc)).toArray = L at *
  have e0 : (1024 : Int) < (pn : Int) := by omega
  clear ht hn hdt hdn hdg
  go_enter Yba.func5, Yba.ntmps5
  go_wp2
  go_ret
  exact ⟨rfl, (Below.refl _ w).alloc (Nat.le_refl _) _⟩

set_option maxRecDepth 100000 in
set_option maxHeartbeats 1000000 in
theorem big_yes1 (po vo ho dob fo : Option Addr) (pn pc vm vc hm hc dm dc fm fc : Nat) (key : ByteArray) (x y cl dx dy : Nat) (tag non dtag dnon ddig : List UInt8) (don : Bool)
    (ht : tag.length = 32) (hn : non.length = 32) (hdt : dtag.length = 32) (hdn : dnon.length = 32) (hdg : ddig.length = 32) (h0 : pn ≤ 1024) (h1 : 1024 < key.size) (w : World) :
    Calls Yba.prog 5 #[.agg (argL (.slice po pn pc) key x y tag non (.slice vo vm vc) cl (.slice ho hm hc) don dx dy dtag dnon ddig (.slice dob dm dc) (.slice fo fm fc)).toArray] w fun e w' => e = .returned (.bool true) ∧ Below w.heap.size w w' := by
  have A := Arg.mk' (don := don) (dx := dx) (dy := dy) (x := x) (y := y) (cl := cl) (key := key) (pre := .slice po pn pc) (vec := .slice vo vm vc) (hs := .slice ho hm hc) (dvec := .slice dob dm dc) (frag := .slice fo fm fc) ht hn hdt hdn hdg (heap_alloc_new w _)
  have q0 := A.pre
  have q1 := A.key
  have q2 := A.vec
  have q3 := A.hs
  have q4 := A.dvec
  have q5 := A.frag
  clear A
  generalize (argL (.slice po pn pc) key x y tag non (.slice vo vm vc) cl (.slice ho hm hc) don dx dy dtag dnon ddig (.slice dob dm dc) (.slice fo fm fc)).toArray = L at *
  have e0 : ¬ (1024 : Int) < (pn : Int) := by omega
  have e1 : (1024 : Int) < (key.size : Int) := by omega
  clear ht hn hdt hdn hdg
  go_enter Yba.func5, Yba.ntmps5
  go_wp2
  go_ret
  exact ⟨rfl, (Below.refl _ w).alloc (Nat.le_refl _) _⟩

set_option maxRecDepth 100000 in
set_option maxHeartbeats 1000000 in
theorem big_yes2 (po vo ho dob fo : Option Addr) (pn pc vm vc hm hc dm dc fm fc : Nat) (key : ByteArray) (x y cl dx dy : Nat) (tag non dtag dnon ddig : List UInt8) (don : Bool)
    (ht : tag.length = 32) (hn : non.length = 32) (hdt : dtag.length = 32) (hdn : dnon.length = 32) (hdg : ddig.length = 32) (h0 : pn ≤ 1024) (h1 : key.size ≤ 1024) (h2 : 1024 < vm) (w : World) :
    Calls Yba.prog 5 #[.agg (argL (.slice po pn pc) key x y tag non (.slice vo vm vc) cl (.slice ho hm hc) don dx dy dtag dnon ddig (.slice dob dm dc) (.slice fo fm fc)).toArray] w fun e w' => e = .returned (.bool true) ∧ Below w.heap.size w w' := by
  have A := Arg.mk' (don := don) (dx := dx) (dy := dy) (x := x) (y := y) (cl := cl) (key := key) (pre := .slice po pn pc) (vec := .slice vo vm vc) (hs := .slice ho hm hc) (dvec := .slice dob dm dc) (frag := .slice fo fm fc) ht hn hdt hdn hdg (heap_alloc_new w _)
  have q0 := A.pre
  have q1 := A.key
  have q2 := A.vec
  have q3 := A.hs
  have q4 := A.dvec
  have q5 := A.frag
  clear A
  generalize (argL (.slice po pn pc) key x y tag non (.slice vo vm vc) cl (.slice ho hm hc) don dx dy dtag dnon ddig (.slice dob dm dc) (.slice fo fm fc)).toArray = L at *
  have e0 : ¬ (1024 : Int) < (pn : Int) := by omega
  have e1 : ¬ (1024 : Int) < (key.size : Int) := by omega
  have e2 : (1024 : Int) < (vm : Int) := by omega
  clear ht hn hdt hdn hdg
  go_enter Yba.func5, Yba.ntmps5
  go_wp2
  go_ret
  exact ⟨rfl, (Below.refl _ w).alloc (Nat.le_refl _) _⟩

set_option maxRecDepth 100000 in
set_option maxHeartbeats 1000000 in
theorem big_yes3 (po vo ho dob fo : Option Addr) (pn pc vm vc hm hc dm dc fm fc : Nat) (key : ByteArray) (x y cl dx dy : Nat) (tag non dtag dnon ddig : List UInt8) (don : Bool)
    (ht : tag.length = 32) (hn : non.length = 32) (hdt : dtag.length = 32) (hdn : dnon.length = 32) (hdg : ddig.length = 32) (h0 : pn ≤ 1024) (h1 : key.size ≤ 1024) (h2 : vm ≤ 1024) (h3 : 1024 < hm) (w : World) :
    Calls Yba.prog 5 #[.agg (argL (.slice po pn pc) key x y tag non (.slice vo vm vc) cl (.slice ho hm hc) don dx dy dtag dnon ddig (.slice dob dm dc) (.slice fo fm fc)).toArray] w fun e w' => e = .returned (.bool true) ∧ Below w.heap.size w w' := by
  have A := Arg.mk' (don := don) (dx := dx) (dy := dy) (x := x) (y := y) (cl := cl) (key := key) (pre := .slice po pn pc) (vec := .slice vo vm vc) (hs := .slice ho hm hc) (dvec := .slice dob dm dc) (frag := .slice fo fm fc) ht hn hdt hdn hdg (heap_alloc_new w _)
  have q0 := A.pre
  have q1 := A.key
  have q2 := A.vec
  have q3 := A.hs
  have q4 := A.dvec
  have q5 := A.frag
  clear A
  generalize (argL (.slice po pn pc) key x y tag non (.slice vo vm vc) cl (.slice ho hm hc) don dx dy dtag dnon ddig (.slice dob dm dc) (.slice fo fm fc)).toArray = L at *
  have e0 : ¬ (1024 : Int) < (pn : Int) := by omega
  have e1 : ¬ (1024 : Int) < (key.size : Int) := by omega
  have e2 : ¬ (1024 : Int) < (vm : Int) := by omega
  have e3 : (1024 : Int) < (hm : Int) := by omega
  clear ht hn hdt hdn hdg
  go_enter Yba.func5, Yba.ntmps5
  go_wp2
  go_ret
  exact ⟨rfl, (Below.refl _ w).alloc (Nat.le_refl _) _⟩

set_option maxRecDepth 100000 in
set_option maxHeartbeats 1000000 in
theorem big_yes4 (po vo ho dob fo : Option Addr) (pn pc vm vc hm hc dm dc fm fc : Nat) (key : ByteArray) (x y cl dx dy : Nat) (tag non dtag dnon ddig : List UInt8) (don : Bool)
    (ht : tag.length = 32) (hn : non.length = 32) (hdt : dtag.length = 32) (hdn : dnon.length = 32) (hdg : ddig.length = 32) (h0 : pn ≤ 1024) (h1 : key.size ≤ 1024) (h2 : vm ≤ 1024) (h3 : hm ≤ 1024) (h4 : 1024 < dm) (w : World) :
    Calls Yba.prog 5 #[.agg (argL (.slice po pn pc) key x y tag non (.slice vo vm vc) cl (.slice ho hm hc) don dx dy dtag dnon ddig (.slice dob dm dc) (.slice fo fm fc)).toArray] w fun e w' => e = .returned (.bool true) ∧ Below w.heap.size w w' := by
  have A := Arg.mk' (don := don) (dx := dx) (dy := dy) (x := x) (y := y) (cl := cl) (key := key) (pre := .slice po pn pc) (vec := .slice vo vm vc) (hs := .slice ho hm hc) (dvec := .slice dob dm dc) (frag := .slice fo fm fc) ht hn hdt hdn hdg (heap_alloc_new w _)
  have q0 := A.pre
  have q1 := A.key
  have q2 := A.vec
  have q3 := A.hs
  have q4 := A.dvec
  have q5 := A.frag
  clear A
  generalize (argL (.slice po pn pc) key x y tag non (.slice vo vm vc) cl (.slice ho hm hc) don dx dy dtag dnon ddig (.slice dob dm dc) (.slice fo fm fc)).toArray = L at *
  have e0 : ¬ (1024 : Int) < (pn : Int) := by omega
  have e1 : ¬ (1024 : Int) < (key.size : Int) := by omega
  have e2 : ¬ (1024 : Int) < (vm : Int) := by omega
  have e3 : ¬ (1024 : Int) < (hm : Int) := by omega
  have e4 : (1024 : Int) < (dm : Int) := by omega
  clear ht hn hdt hdn hdg
  go_enter Yba.func5, Yba.ntmps5
  go_wp2
  go_ret
  exact ⟨rfl, (Below.refl _ w).alloc (Nat.le_refl _) _⟩

set_option maxRecDepth 100000 in
set_option maxHeartbeats 1000000 in
theorem big_yes5 (po vo ho dob fo : Option Addr) (pn pc vm vc hm hc dm dc fm fc : Nat) (key : ByteArray) (x y cl dx dy : Nat) (tag non dtag dnon ddig : List UInt8) (don : Bool)
    (ht : tag.length = 32) (hn : non.length = 32) (hdt : dtag.length = 32) (hdn : dnon.length = 32) (hdg : ddig.length = 32) (h0 : pn ≤ 1024) (h1 : key.size ≤ 1024) (h2 : vm ≤ 1024) (h3 : hm ≤ 1024) (h4 : dm ≤ 1024) (h5 : 1024 < fm) (w : World) :
    Calls Yba.prog 5 #[.agg (argL (.slice po pn pc) key x y tag non (.slice vo vm vc) cl (.slice ho hm hc) don dx dy dtag dnon ddig (.slice dob dm dc) (.slice fo fm fc)).toArray] w fun e w' => e = .returned (.bool true) ∧ Below w.heap.size w w' := by
  have A := Arg.mk' (don := don) (dx := dx) (dy := dy) (x := x) (y := y) (cl := cl) (key := key) (pre := .slice po pn pc) (vec := .slice vo vm vc) (hs := .slice ho hm hc) (dvec := .slice dob dm dc) (frag := .slice fo fm fc) ht hn hdt hdn hdg (heap_alloc_new w _)
  have q0 := A.pre
  have q1 := A.key
  have q2 := A.vec
  have q3 := A.hs
  have q4 := A.dvec
  have q5 := A.frag
  clear A
  generalize (argL (.slice po pn pc) key x y tag non (.slice vo vm vc) cl (.slice ho hm hc) don dx dy dtag dnon ddig (.slice dob dm dc) (.slice fo fm fc)).toArray = L at *
  have e0 : ¬ (1024 : Int) < (pn : Int) := by omega
  have e1 : ¬ (1024 : Int) < (key.size : Int) := by omega
  have e2 : ¬ (1024 : Int) < (vm : Int) := by omega
  have e3 : ¬ (1024 : Int) < (hm : Int) := by omega
  have e4 : ¬ (1024 : Int) < (dm : Int) := by omega
  have e5 : (1024 : Int) < (fm : Int) := by omega
  clear ht hn hdt hdn hdg
  go_enter Yba.func5, Yba.ntmps5
  go_wp2
  go_ret
  exact ⟨rfl, (Below.refl _ w).alloc (Nat.le_refl _) _⟩
end Go.Proofs.Ybulkoxq
