/- The printed texts, together. -/
import Derived.Test.YtpjfokolbgcbhaaDoorEm0
import Derived.Test.YtpjfokolbgcbhaaDoorEm1
import Derived.Test.YtpjfokolbgcbhaaDoorEm2
import Derived.Test.YtpjfokolbgcbhaaDoorEm4
import Derived.Test.YtpjfokolbgcbhaaDoorEm5
import Derived.Test.YtpjfokolbgcbhaaDoorEm6
import Derived.Test.YtpjfokolbgcbhaaDoorEm7
import Derived.Test.YtpjfokolbgcbhaaDoorEm8
