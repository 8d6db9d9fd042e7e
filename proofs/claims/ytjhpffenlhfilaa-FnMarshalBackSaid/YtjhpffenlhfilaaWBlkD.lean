/- The contract of block_generic holds. -/
import Derived.Test.YtjhpffenlhfilaaWBlock
import Derived.Test.YtjhpffenlhfilaaWBlkC
namespace Go.Proofs.Ytjhpffenlhfilaa.Ch
theorem block_c : BlockC := fun gs os gd T l s0 s1 s2 s3 c w h1 h2 h3 h4 h5 h6 h7 => block_any gs os gd T l s0 s1 s2 s3 c w h1 h2 h3 h4 h5 h6 h7
end Go.Proofs.Ytjhpffenlhfilaa.Ch
