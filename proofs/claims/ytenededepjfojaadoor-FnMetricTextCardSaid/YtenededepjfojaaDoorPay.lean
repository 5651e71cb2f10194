/- From what a row lists to what the walks ask. -/
import Derived.Test.YtenededepjfojaaDoorResQ
