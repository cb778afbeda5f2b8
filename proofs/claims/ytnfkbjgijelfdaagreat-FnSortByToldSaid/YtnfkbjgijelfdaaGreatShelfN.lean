/- The contracts of the library, handed on. -/
import Derived.Test.YtnfkbjgijelfdaaGreatShelfR
