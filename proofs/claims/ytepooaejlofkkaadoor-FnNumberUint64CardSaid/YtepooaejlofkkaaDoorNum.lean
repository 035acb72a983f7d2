/- What the print of the numbers' laws is given. -/
import Derived.Test.YtepooaejlofkkaaDoorEnc
import Derived.Test.YtepooaejlofkkaaDoorCmp
import Derived.Test.YtepooaejlofkkaaDoorDig
