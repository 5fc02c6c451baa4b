/- The premise of the walks stands in FmtUint. -/
import Derived.Test.YtbipmpojmfbekaaDoorFmtUint
