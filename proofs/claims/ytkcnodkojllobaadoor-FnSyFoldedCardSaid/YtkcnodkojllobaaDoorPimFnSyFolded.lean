/- The printed walks of FnSyFolded's functions, together. -/
import Derived.Test.YtkcnodkojllobaaDoorPFnSyFoldedy0
import Derived.Test.YtkcnodkojllobaaDoorPFnSyFoldedy1
import Derived.Test.YtkcnodkojllobaaDoorPFnSyFoldedy2
