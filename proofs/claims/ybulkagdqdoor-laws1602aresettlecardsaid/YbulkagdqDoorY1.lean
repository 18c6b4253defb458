import Derived.Test.YbulkagdqDoorX2
import Derived.Test.YbulkagdqDoorM0
import Derived.Test.YbulkagdqDoorM1
import Derived.Test.YbulkagdqDoorM2
namespace Go.Proofs.YbulkagdqDoor
open Go

theorem resettle_walk : WalkT := fun a n c zs x1 xclk aClk mm d ea w hz hx0 hx1 hc0 hc1 ha0 ha1 hm0 hm1 hd1 hd2 hE hG => by
  rcases (by omega : mm % 3 = 0 ∨ mm % 3 = 1 ∨ mm % 3 = 2) with hmk | hmk | hmk
  · exact resettle_m0 a n c zs x1 xclk aClk mm d ea w hz hx0 hx1 hc0 hc1 ha0 ha1 hm0 hm1 hmk hd1 hd2 hE hG
  · exact resettle_m1 a n c zs x1 xclk aClk mm d ea w hz hx0 hx1 hc0 hc1 ha0 ha1 hm0 hm1 hmk hd1 hd2 hE hG
  · exact resettle_m2 a n c zs x1 xclk aClk mm d ea w hz hx0 hx1 hc0 hc1 ha0 ha1 hm0 hm1 hmk hd1 hd2 hE hG

theorem resettle_card : Rows.LawS1602AResettleCardSaid := resettle_card_of resettle_walk
#print axioms resettle_card
end Go.Proofs.YbulkagdqDoor
