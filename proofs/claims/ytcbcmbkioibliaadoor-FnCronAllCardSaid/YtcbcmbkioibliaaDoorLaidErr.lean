/- The premise of the walks stands in CrNum. -/
import Derived.Test.YtcbcmbkioibliaaDoorCrNum
