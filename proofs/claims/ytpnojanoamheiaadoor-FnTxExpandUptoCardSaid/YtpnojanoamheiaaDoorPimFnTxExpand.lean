/- The printed functions that the proofs use, for one statement. -/
import Derived.Test.YtpnojanoamheiaaDoorPFnTxExpandy0
import Derived.Test.YtpnojanoamheiaaDoorPFnTxExpandy1
import Derived.Test.YtpnojanoamheiaaDoorPFnTxExpandy2
