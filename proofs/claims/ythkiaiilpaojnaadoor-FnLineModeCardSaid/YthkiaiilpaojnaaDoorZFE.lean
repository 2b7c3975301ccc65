import Derived.Test.YthkiaiilpaojnaaDoorZFB
import Derived.Test.YthkiaiilpaojnaaDoorZFS
import Derived.Test.YthkiaiilpaojnaaDoorProg
namespace Go.Proofs.YthkiaiilpaojnaaDoorZF
open Go Go.Proofs
theorem UN {w:World} (h:GW Tryd.prog w):Lib.Utf8Tabs 0 1 w:=by
  obtain ⟨w0,h0,hs⟩:=h
  have c:∀g o,g < NG→w.cell? ⟨g,o,none⟩=w0.cell? ⟨g,o,none⟩:=fun g o hg=>World.cell?_of_block (a:=⟨g,o,none⟩) (hs g hg)
  exact ⟨fun i hi=>(c 0 i (by decide)).trans (h0.1 i hi),fun i hi=>⟨(c 1 _ (by decide)).trans (h0.2 i hi).1,(c 1 _ (by decide)).trans (h0.2 i hi).2⟩⟩
end Go.Proofs.YthkiaiilpaojnaaDoorZF
