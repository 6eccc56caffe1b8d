/- fnBoxOpenAny_card proves Rows.FnBoxOpenAnyCardSaid, the card of FnBoxOpenAny: any bytes are opened by any public key and any private one just if they are a box of the key that both share. No condition is added; the axioms are propext, Classical.choice and Quot.sound. -/
import Derived.Test.YtnfikgagkamioaaGreatDoorXRow
namespace Go.Proofs.YtnfikgagkamioaaGreatDoor
open Go.Sy
theorem fnBoxOpenAny_card:Rows.FnBoxOpenAnyCardSaid :=
 Claim7.holds_tied_plain_at .later [] [.widerDeep] true (true, "82e56f2dca5b65ee7b85fe9541466d816a71df8f1084ea278dbc4b1d1b6cedbe") false
  over (fun _ h=>by cases h) (by kernel_rfl) (fun _ h=>by cases h) fnBoxOpenAny_row_tie rfl ⟨rfl,rfl⟩ (by kernel_rfl) rfl
  (fun f fn hf hfn=>by
   obtain rfl : f = 3 := dP ((show Tryz.prog.funcNamed "loop.example/pub-g03085/laws.FnBoxOpenAny" = some 3 by kernel_rfl).symm.trans hf) |>.symm
   obtain rfl:fn=Tryz.f3:=(dP (Tryz.func3.symm.trans hfn)).symm;refine ⟨by kernel_rfl,fun j t ht=> ?_⟩;rw[Tryz.params3] at ht;have h5:t=22∨t=23∨t=24:=by
    match j,ht with
    | 0,ht=>simp at ht;subst ht;simp
    | 1,ht=>simp at ht;subst ht;simp
    | 2,ht=>simp at ht;subst ht;simp
    | 3,ht=>simp at ht;subst ht;simp
    | 4,ht=>simp at ht;subst ht;simp
    | j+5,ht=>simp at ht
   rcases h5 with rfl | rfl | rfl
   ·exact (show Tryz.prog.wantsStandIn 22=false by kernel_rfl)
   ·exact (show Tryz.prog.wantsStandIn 23=false by kernel_rfl)
   ·exact (show Tryz.prog.wantsStandIn 24=false by kernel_rfl))
  (by kernel_rfl)
#print axioms fnBoxOpenAny_card
end Go.Proofs.YtnfikgagkamioaaGreatDoor
