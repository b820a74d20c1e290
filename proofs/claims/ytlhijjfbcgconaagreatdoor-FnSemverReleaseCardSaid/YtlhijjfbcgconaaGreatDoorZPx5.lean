/- Printed texts cut: version9 is walked by hand (So2). -/
import Derived.Test.YtlhijjfbcgconaaGreatDoorZQA2
import Derived.Test.YtlhijjfbcgconaaGreatDoorZQA4

