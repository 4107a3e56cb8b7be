/-
  One and zero: fp.Element.SetOne, IsOne; E2, E6, E12: IsZero, IsOne, SetOne; impl.E12One, impl.E12IsOne.
-/
import Derived.Test.YtnhfgcoeibjagaaLow
namespace Go.Proofs.Ytnhfgcoeibjagaa
open Vm

def one4 : L4 := ⟨15230403791020821917, 754611498739239741, 7381016538464732716, 1011752739694698287⟩
theorem one4_ok : one4.ok := ⟨⟨by decide, by decide⟩, ⟨by decide, by decide⟩, ⟨by decide, by decide⟩, ⟨by decide, by decide⟩⟩
def one8 : L8 := ⟨one4, z4⟩
def one24 : L24 := ⟨one8, z8, z8⟩
def one48 : L48 := ⟨one24, z24⟩
theorem z8_ok : z8.ok := ⟨z4_ok, z4_ok⟩
theorem z24_ok : z24.ok := ⟨z8_ok, z8_ok, z8_ok⟩
theorem one48_ok : one48.ok := ⟨⟨⟨one4_ok, z4_ok⟩, z8_ok, z8_ok⟩, z24_ok⟩
theorem fpSetOne_run : RunW Try.prog (look []) 1 Try.f83 4 c4 (fun x => sSame c4 ((fun _ => one4) x) (noVC x)) := fun _ _ => by kernel_rfl
theorem ac_fpSetOne : AC Try.prog 83 [.W 4] (rWs c4 (fun _ => one4) noVC) :=
  mkWs (look_ok [] env_nil) follows (by kernel_rfl) rfl G4 (fun _ _ => one4_ok) fpSetOne_run
def isO (x : L4) : Bool := bits .or .u64 (bits .or .u64 (bits .or .u64 (bits .xor .u64 x.d 1011752739694698287) (bits .xor .u64 x.c 7381016538464732716)) (bits .xor .u64 x.b 754611498739239741)) (bits .xor .u64 x.a 15230403791020821917) == 0
theorem fpIsOne_run : Run1 Try.prog (look []) 1 Try.f94 (.R 4) c4 (fun x => sBool (isO x) True) := fun _ _ => by kernel_rfl
theorem ac_fpIsOne : AC Try.prog 94 [.R 4] (rB isO) :=
  ac_of_run (fn := Try.f94) (look_ok [] env_nil) follows (by kernel_rfl) rfl
    (run1 c4_sound rfl fpIsOne_run fun _ _ => ⟨res_val trivial, fun _ => .mk' trivial rfl rfl⟩)

section
variable {α : Type}
def rBn (C : Cod α) (f : α → Bool) : Gf := g1 C fun x => ([], .val (.bool (f x)), none)
def and2 (a b : Bool) : Option Seen := match a with
  | true => sBool b True
  | false => sBool false True
def and3 (a b c : Bool) : Option Seen := match a with
  | true => (match b with
    | true => sBool c True
    | false => sBool false True)
  | false => sBool false True
theorem and2_sees (a b : Bool) : Sees [] (.val (.bool (a && b))) (and2 a b) := by cases a <;> exact .mk' trivial rfl rfl
theorem and3_sees (a b c : Bool) : Sees [] (.val (.bool (a && (b && c)))) (and3 a b c) := by cases a <;> cases b <;> exact .mk' trivial rfl rfl
end
variable (iz4 io4 : L4 → Bool) (iz8 io8 : L8 → Bool) (iz24 io24 : L24 → Bool) (io48 : L48 → Bool)
abbrev eZ8 : List (Nat × Sm) := [eM 84 [.R 4] (rB iz4), eM 94 [.R 4] (rB io4)]
abbrev eZ24 : List (Nat × Sm) := [eM 93 [.R 8] (rBn c8 iz8), eM 92 [.R 8] (rBn c8 io8)]
abbrev eZ48 : List (Nat × Sm) := [eM 82 [.R 24] (rBn c24 iz24), eM 81 [.R 24] (rBn c24 io24)]
theorem e2IsZero_run : Run1 Try.prog (look (eZ8 iz4 io4)) 1 Try.f93 (.R 8) c8 (fun x => and2 (iz4 x.p) (iz4 x.q)) := fun _ _ => by kernel_rfl
theorem e2IsOne_run : Run1 Try.prog (look (eZ8 iz4 io4)) 1 Try.f92 (.R 8) c8 (fun x => and2 (io4 x.p) (iz4 x.q)) := fun _ _ => by kernel_rfl
theorem e6IsZero_run : Run1 Try.prog (look (eZ24 iz8 io8)) 1 Try.f82 (.R 24) c24 (fun x => and3 (iz8 x.p) (iz8 x.q) (iz8 x.r)) := fun _ _ => by kernel_rfl
theorem e6IsOne_run : Run1 Try.prog (look (eZ24 iz8 io8)) 1 Try.f81 (.R 24) c24 (fun x => and3 (io8 x.p) (iz8 x.q) (iz8 x.r)) := fun _ _ => by kernel_rfl
theorem e12IsOne_run : Run1 Try.prog (look (eZ48 iz24 io24)) 1 Try.f65 (.R 48) c48 (fun x => and2 (io24 x.p) (iz24 x.q)) := fun _ _ => by kernel_rfl
abbrev eImplOne : List (Nat × Sm) := [eM 65 [.R 48] (rBn c48 io48), eV 53 [.V] (rV c48 c48 o_made12 p_made12)]
theorem implIsOne_run : Run1 Try.prog (look (eImplOne io48)) 1 Try.f38 .V c48.agg (fun x => sBool (io48 x) (True ∧ p_made12 x)) := fun _ _ => by kernel_rfl
abbrev eSetOne : List (Nat × Sm) := [eM 83 [.W 4] (rWs c4 (fun _ => one4) noVC)]
theorem e12SetOne_run : RunW Try.prog (look eSetOne) 1 Try.f66 48 c48 (fun x => sSame c48 ((fun _ => one48) x) ((fun _ => True ∧ noVC z4) x)) := fun _ _ => by kernel_rfl
def vcOne (_ : L48) : Prop := True ∧ noVC z4
abbrev eE12One : List (Nat × Sm) := [eM 66 [.W 48] (rWs c48 (fun _ => one48) vcOne), eV 54 [.V] (rV c48 c48 o_told12 p_told12)]
theorem implOne_run : runs Try.prog (look eE12One) 1 Try.f39 [] [] [] [] = sVal c48 one48 ((True ∧ vcOne z48) ∧ p_told12 one48) := by kernel_rfl

def isZ8 (x : L8) : Bool := isZ x.p && isZ x.q
def isO8 (x : L8) : Bool := isO x.p && isZ x.q
def isZ24 (x : L24) : Bool := isZ8 x.p && (isZ8 x.q && isZ8 x.r)
def isO24 (x : L24) : Bool := isO8 x.p && (isZ8 x.q && isZ8 x.r)
def isO48 (x : L48) : Bool := isO24 x.p && isZ24 x.q
theorem ac_e2IsZero : AC Try.prog 93 [.R 8] (rBn c8 isZ8) :=
  ac_of_run (fn := Try.f93) (look_ok (eZ8 isZ isO) (env_M ac_fpIsZero (env_M ac_fpIsOne env_nil))) follows (by kernel_rfl) rfl
    (run1 c8_sound rfl (e2IsZero_run _ _) fun _ _ => ⟨res_val trivial, fun _ => and2_sees _ _⟩)
theorem ac_e2IsOne : AC Try.prog 92 [.R 8] (rBn c8 isO8) :=
  ac_of_run (fn := Try.f92) (look_ok (eZ8 isZ isO) (env_M ac_fpIsZero (env_M ac_fpIsOne env_nil))) follows (by kernel_rfl) rfl
    (run1 c8_sound rfl (e2IsOne_run _ _) fun _ _ => ⟨res_val trivial, fun _ => and2_sees _ _⟩)
theorem ac_e6IsZero : AC Try.prog 82 [.R 24] (rBn c24 isZ24) :=
  ac_of_run (fn := Try.f82) (look_ok (eZ24 isZ8 isO8) (env_M ac_e2IsZero (env_M ac_e2IsOne env_nil))) follows (by kernel_rfl) rfl
    (run1 c24_sound rfl (e6IsZero_run _ _) fun _ _ => ⟨res_val trivial, fun _ => and3_sees _ _ _⟩)
theorem ac_e6IsOne : AC Try.prog 81 [.R 24] (rBn c24 isO24) :=
  ac_of_run (fn := Try.f81) (look_ok (eZ24 isZ8 isO8) (env_M ac_e2IsZero (env_M ac_e2IsOne env_nil))) follows (by kernel_rfl) rfl
    (run1 c24_sound rfl (e6IsOne_run _ _) fun _ _ => ⟨res_val trivial, fun _ => and3_sees _ _ _⟩)
theorem ac_e12IsOne : AC Try.prog 65 [.R 48] (rBn c48 isO48) :=
  ac_of_run (fn := Try.f65) (look_ok (eZ48 isZ24 isO24) (env_M ac_e6IsZero (env_M ac_e6IsOne env_nil))) follows (by kernel_rfl) rfl
    (run1 c48_sound rfl (e12IsOne_run _ _) fun _ _ => ⟨res_val trivial, fun _ => and2_sees _ _⟩)
def p_io (x : L48) : Prop := True ∧ p_made12 x
theorem ac_implIsOne : AC Try.prog 38 [.V] (rVb c48 isO48 p_io) :=
  mkVb (fn := Try.f38) (look_ok (eImplOne isO48) (env_M ac_e12IsOne (env_V ac_made12 env_nil))) follows (by kernel_rfl) rfl G48 (implIsOne_run isO48) fun _ => rfl
theorem ac_e12SetOne : AC Try.prog 66 [.W 48] (rWs c48 (fun _ => one48) vcOne) :=
  mkWs (fn := Try.f66) (look_ok eSetOne (env_M ac_fpSetOne env_nil)) follows (by kernel_rfl) rfl G48 (fun _ _ => one48_ok) e12SetOne_run
def rOne : Gf := g0 ([], .val (avC c48 one48), none)
theorem ac_implOne : AC Try.prog 39 [] rOne :=
  ac_of_run (fn := Try.f39) (look_ok eE12One (env_M ac_e12SetOne (env_V ac_told12 env_nil))) follows (by kernel_rfl) rfl
    (runOK0 (res_val (G48.val one48_ok)) fun _ => ⟨1, by
      rw [implOne_run]
      exact .mk' ⟨⟨trivial, ⟨trivial, trivial⟩⟩, ⟨⟨trivial, trivial⟩, trivial⟩⟩ rfl rfl⟩)
theorem one_isO : isO48 one48 = true := by decide
end Go.Proofs.Ytnhfgcoeibjagaa
