/- FnMultiPolygonBody's card: its walk (QB) and what the card asks, given the walk (K3). -/
import Derived.Test.YtblpcpkkjbkakaaGreatDoorY54
import Derived.Test.YtblpcpkkjbkakaaGreatDoorY51
import Derived.Test.YtblpcpkkjbkakaaGreatDoorCards
namespace Go.Proofs.YtblpcpkkjbkakaaGreatDoor.fnMultiPolygonBody
open Go

theorem card : Rows.FnMultiPolygonBodyCardSaid := card_of fun s d w hs B0 g gl gp hG => fnMulti_any s d w hs B0 g gl gp hG
#print axioms card
end Go.Proofs.YtblpcpkkjbkakaaGreatDoor.fnMultiPolygonBody
