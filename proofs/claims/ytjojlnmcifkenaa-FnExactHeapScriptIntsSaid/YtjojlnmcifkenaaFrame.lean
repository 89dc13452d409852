/-
  The texts that a seat without items needs of what a call leaves alone: all of it lies in the base text. No conditions.
-/
import Derived.Test.YtjojlnmcifkenaaBase
